/-
  SX, PART 35: a law's paths, walked case by case: each case with facts of its own ahead, so that few paths are left.
-/
import Derived.Test.YtdlppkhmmclipaaGreatSxMLoopE
import Derived.Maps.RangeRun
namespace Go.Sx
open Go.RowKit
set_option linter.unusedVariables false
set_option linter.unusedSimpArgs false
section
variable {vB : Nat} {env e : Env} {w0 : Anchor} {ρ ρE : af} {fr : Fr} {h : aL} {nx nx' : Nat} {a a' : Act} {w w' : World}
theorem Dp (hs : Sat env w0 ρ fr h nx a w) {S : List Nat} {H : Head} {N : Nat} {js : List Nat} {l : List (Nat × Nat)} (hov : nK env e (sig l nx) fr.sl H.ov) (hhp : s7 env e (sig l nx) h S H.h)
    (hobj : H.h.all (fun x => bS x.2) = true) (hinj : allDiff (l.map (·.2)) = true) (cW : ∀ x ∈ l, x.1 < H.m) {iN : List (FuncId × List SV)} (hdi : ∀ ρ', eZ e ρ' iN a.defers) (hN : fr.sl.length = N)
    (hv : ∀ j, j < N -> e.val (vB + j) 0 = (a.tmps.toList[j]?).getD undef) :
    Sat e (cF w ρ (eA ρ h S)) (ρ.re (sig l nx)) ⟨et (lq vB N js H).ov (fun j => (a.tmps.toList[j]?).getD undef) 0 N, iN⟩ (bg H.h) H.m a w := by
 have hs1 := US hs hov hhp hobj hinj cW hdi hN; have hal : a.tmps.toList.length = N := by rw [hs.sl.length, hN]
 exact ⟨hs1.hs, I8 hs1.sl (fun j hj => by rw [List.getElem?_eq_getElem (by omega)]; rfl) hv (fun _ _ => rfl), hs1.df, hs1.nx⟩
theorem nR : ∀ {js : List Nat} {j : Nat}, j ∉ js -> b9 (rG js) j = none
 | [], _, _ => rfl
 | i :: r, j, h => by
   simp only [List.mem_cons, not_or] at h; simp only [rG, List.map_cons, b9]; have : Nat.beq i j = false := by rw [Bool.eq_false_iff]; intro he; exact h.1 (Nat.eq_of_beq_eq_true he).symm
   rw [this]; exact nR (js := r) h.2
theorem zX {iN : List (FuncId × List SV)} (hs : Sat env w0 ρ fr h nx a w) {S news : List Nat} {Hx : Head} {N : Nat} {js : List Nat} (hE : Sat e (cF w ρ (eA ρ h S)) ρE ⟨et (lq vB N js Hx).ov (fun _ => .nilIface) 0 N, iN⟩ (bg Hx.h) Hx.m a' w')
    {tl : List (Nat × Nat)} {upds : List (Nat × aA)} {outs : List (Nat × SV)}
    (hkeys : ∀ n, n ∈ upds.map (·.1) ↔ n ∈ S \/ n ∈ news) (hnew : ∀ n ∈ news, nx <= n /\ n < nx') (hnx : nx <= nx')
    (hobj : ∀ n o, (n, o) ∈ upds -> o = .gone \/ (o.owner = true /\ ∃ oE, bZ Hx.h (sig tl Hx.m n) = some oE /\ oE.owner = true /\ aA.aV e env (sig tl Hx.m) oE o) \/ ∃ T ks x, o = .ar T ks x /\ n = dI T /\ ∃ x1, bZ Hx.h n = some (.ar T ks x1) /\ (x1.den e).T = (x.den env).T)
    (hfz : Fz.le ρ.fz ρE.fz) (h6 : ∀ T ks x, bZ Hx.h (dI T) = some (.ar T ks x) -> dI T ∈ S /\ ∃ ks' x', ay (gR upds h) (dI T) = some (.ar T ks' x')) (h7 : ∀ T ks x, ay h (dI T) = some (.ar T ks x) -> ∃ ks' x', ay (gR upds h) (dI T) = some (.ar T ks' x'))
    (hinj : allDiff (tl.map (·.2)) = true) (htl : ∀ x ∈ tl, x.1 ∈ news \/ ρ x.1 = ρE x.2)
    (hout : nK e env (sig tl Hx.m) (et (lq vB N js Hx).ov (fun _ => .nilIface) 0 N) outs) (hdb : ∀ ρ' ds, ρ.le ρ' -> eZ e ρE iN ds -> eZ env ρ' fr.df ds) (hN : fr.sl.length = N)
    (hv : ∀ j, j < N -> e.val (vB + j) 0 = (a.tmps.toList[j]?).getD undef) (hjo : ∀ j, j < N -> b9 outs j = none -> b9 Hx.ov j = none) :
    ρ.le (eQ ρ ρE (sig tl Hx.m) news) /\ Sat env w0 (eQ ρ ρE (sig tl Hx.m) news) ⟨Cq outs (xy js fr.sl), fr.df⟩ (gR upds h) nx' a' w' := by
 have hal : a.tmps.toList.length = N := by rw [hs.sl.length, hN]
 refine QR hs hE hkeys hnew hnx hobj hfz h6 h7 hinj htl hout hdb (by rw [eK, hN]) (fun j hj hjj hno => ?_)
 rw [hN] at hj; have h2 := hjo j hj hno; obtain ⟨v, hv', hr⟩ := DN hE.sl hj
 have hx : b9 (lq vB N js Hx).ov j = some (.val (vB + j) (.il 0)) := by
  obtain ⟨x, hx⟩ := yj (vB := vB) (js := js) (ov := Hx.ov) hj; have hx2 := hx; unfold jF at hx2; rw [dm, h2] at hx2; simp only at hx2; rw [dm, nR hjj] at hx2; simp only at hx2; rw [lH hx2] at hx; exact hx
 rw [hx] at hr; have : v = e.val (vB + j) 0 := hr; rw [hv', this, hv j hj, List.getElem?_eq_getElem (by omega)]
 rfl
end
def EH : aA -> Bool
 | .cells .. => true
 | .row .. => true
 | .qW .. => true
 | .map .. => true
 | .k7 .. => true
 | .pf .. => true
 | .rA .. => true
 | .chan .. => true
 | _ => false
theorem Ej {env : Env} {w0 : Anchor} {ρ : af} {n : Nat} {o : aA} {w : World} (h : o.Rel env w0 ρ n w) (hp : EH o = true) : ∃ p, ρ n = some p := by
 cases o with
 | qW sz len cols => obtain ⟨p, h1, _⟩ := h; exact ⟨p, h1⟩
 | dP => cases hp
 | gone => cases hp
 | ar => cases hp
 | fwd => cases hp
 | OB => cases hp
 | _ => obtain ⟨p, _, h1, _⟩ := h.place rfl; exact ⟨p, h1⟩
def ch.pZ (pr : Nat -> E) : ch -> ch
 | .tc k e j => .tc k (e.aR pr) j
 | c => c
def aA.pZ (τ : Nat -> Nat) (pr : Nat -> E) : aA -> aA
 | .cells T cs => .cells T (SV.rens τ pr cs)
 | .row T sz len cols tail => .row T sz (len.aR pr) (cols.map (ch.pZ pr)) (tail.map (SV.rens τ pr))
 | .map m ix kk sz known => .map m (ix.aR pr) kk (sz.aR pr) (oA τ pr known)
 | .ar T ks e => .ar T ks (e.aR pr)
 | .k7 kk ag ks e _ => .k7 kk ag ks (e.aR pr) none
 | .rA T ks e => .rA T ks (e.aR pr)
 | .chan c => .chan (c.aR pr)
 | o => o
mutual
def SV.mL (σ τ : Nat -> Nat) (cx : Nat -> Bool) : SV -> Bool
 | .ptr n _ => Nat.beq (σ (τ n)) n
 | .sl n _ _ _ => Nat.beq (σ (τ n)) n
 | .map n => Nat.beq (σ (τ n)) n
 | .chan n => Nat.beq (σ (τ n)) n
 | .val c _ => cx c
 | .fn _ a c => SV.renOks σ τ cx a && SV.renOks σ τ cx c
 | .eh _ x => SV.mL σ τ cx x
 | .agg l => SV.renOks σ τ cx l
 | .fq l => SV.renOks σ τ cx l
 | .BZ _ => false
 | _ => true
def SV.renOks (σ τ : Nat -> Nat) (cx : Nat -> Bool) : List SV -> Bool
 | [] => true
 | x :: l => SV.mL σ τ cx x && SV.renOks σ τ cx l
end
section
variable {e e' : Env} {pr : Nat -> E} {cx : Nat -> Bool} {σ τ : Nat -> Nat}
mutual
theorem SV.pL (hn : cY e' e pr cx) : ∀ {x : SV}, x.mL σ τ cx = true -> SV.aV e e' σ x (x.pZ τ pr) := by
 intro x h; have hp : ∀ a : E, a.den e = (a.aR pr).den e' := fun a => (E.aO hn a).symm; cases x with
 | int k a => exact ⟨rfl, by rw [hp]⟩
 | bool a => show _ = _; rw [hp]
 | str a => show _ = _; rw [hp]
 | val c i => show e.val c _ = e'.val c _; rw [hn.val c h, hp]
 | cg ks a => exact ⟨rfl, by rw [hp]⟩
 | gV ks a => exact ⟨rfl, by rw [hp]⟩
 | ptr n o =>
   refine ⟨(Nat.eq_of_beq_eq_true h).symm, ?_⟩; cases o with
   | c j => rfl
   | el i sz j => simp only [mg.den, mg.pri, hp]
 | sl n sz lo len => exact ⟨(Nat.eq_of_beq_eq_true h).symm, rfl, by rw [hp], by rw [hp]⟩
 | map n => exact (Nat.eq_of_beq_eq_true h).symm
 | chan n => exact (Nat.eq_of_beq_eq_true h).symm
 | fn f a c =>
   simp only [SV.mL, Bool.and_eq_true] at h; exact ⟨rfl, SV.rens_ent hn h.1, SV.rens_ent hn h.2⟩
 | eh t x => exact ⟨rfl, SV.pL hn (x := x) h⟩
 | agg l => exact SV.rens_ent hn (l := l) h
 | fq l => exact SV.rens_ent hn (l := l) h
 | BZ f => cases h
 | dC ks a i j => exact ⟨rfl, rfl, fun m => by rw [hp, hp]⟩
 | pq T i j => exact ⟨rfl, rfl, by rw [hp]⟩
 | B1 v => exact (rfl : _ = _)
 | _ => trivial
theorem SV.rens_ent (hn : cY e' e pr cx) : ∀ {l : List SV}, SV.renOks σ τ cx l = true -> SV.ents e e' σ l (SV.rens τ pr l) := by
 intro l h; cases l with
 | nil => trivial
 | cons x l =>
   simp only [SV.renOks, Bool.and_eq_true] at h; exact ⟨SV.pL hn h.1, SV.rens_ent hn h.2⟩
end
def gO (cx : Nat -> Bool) : List ch -> Bool
 | [] => true
 | .val c :: r => cx c && gO cx r
 | _ :: r => gO cx r
theorem qt {c : Nat} : ∀ {l : List ch}, gO cx l = true -> ch.val c ∈ l -> cx c = true
 | [], _, h => by cases h
 | bY :: r, ho, h => by
   rcases List.mem_cons.1 h with e | h
   ·subst e; simp only [gO, Bool.and_eq_true] at ho; exact ho.1
   ·refine qt (l := r) ?_ h; cases bY <;> simp only [gO, Bool.and_eq_true] at ho <;> first | exact ho.2 | exact ho
theorem Pa (hn : cY e' e pr cx) {l : List ch} (ho : gO cx l = true) {bY : ch} (hm : bY ∈ l) (i : Int) : SV.aV e e' σ (bY.at (.il i)) ((bY.pZ pr).at (.il i)) := by
 have hp : ∀ a : E, a.den e = (a.aR pr).den e' := fun a => (E.aO hn a).symm; cases bY with
 | int k c => exact ⟨rfl, by simp only [E.den, hn.fn]⟩
 | bool c => show _ = _; simp only [E.den, hn.fn]
 | str c => show _ = _; simp only [E.den, hn.fn]
 | val c => show e.val c _ = e'.val c _; rw [hn.val c (qt ho hm)]; rfl
 | cg ks c => exact ⟨rfl, by simp only [E.den, hn.fn]⟩
 | tc k x j => exact pT (by simp only [E.den, hp])
def aA.mL (σ τ : Nat -> Nat) (pr : Nat -> E) (cx : Nat -> Bool) : aA -> Option (List Ob)
 | .cells _ cs => cond (SV.renOks σ τ cx cs) (some []) none
 | .row _ sz len cols tail => cond (tail.isEmpty && gO cx cols && Nat.ble cols.length sz) (some [.e (.o2 .le (.il 0) (len.aR pr))]) none
 | .map _ _ _ _ known => cond known.isEmpty (some []) none
 | .k7 .. => some []
 | .rA .. => some []
 | .chan _ => some []
 | _ => none
theorem aA.pL (hn : cY e' e pr cx) {o : aA} {l : List Ob} (h : o.mL σ τ pr cx = some l) (ht : cL e' l) : aA.aV e e' σ o (o.pZ τ pr) /\ o.owner = true /\ (o.pZ τ pr).owner = true := by
 have hp : ∀ a : E, a.den e = (a.aR pr).den e' := fun a => (E.aO hn a).symm; cases o with
 | cells T cs =>
   simp only [aA.mL] at h; cases hc : SV.renOks σ τ cx cs with
   | false => rw [hc] at h; cases h
   | true => exact ⟨⟨rfl, SV.rens_ent hn hc⟩, rfl, rfl⟩
 | row T sz len cols tail =>
   simp only [aA.mL] at h; cases hc : (tail.isEmpty && gO cx cols && Nat.ble cols.length sz) with
   | false => rw [hc] at h; cases h
   | true =>
     rw [hc] at h; simp only [cond_true, Option.some.injEq] at h; subst h; simp only [Bool.and_eq_true, List.isEmpty_iff] at hc; obtain ⟨⟨rfl, hc2⟩, hc3⟩ := hc; have h0 : ((E.o2 .le (.il 0) (len.aR pr)).den e').B = true := ht _ (List.mem_cons_self ..); rw [BO] at h0; have h0 := of_decide_eq_true h0; rw [<- hp] at h0; refine ⟨⟨rfl, rfl, rfl, h0, by rw [hp]; simp, by rw [List.length_map]; exact Nat.le_of_ble_eq_true hc3, fun j col' hj => ⟨fun i hi => ?_, fun k t hk => by simp at hk⟩⟩, rfl, rfl⟩
     rw [List.getElem?_map, Option.map_eq_some_iff] at hj; obtain ⟨bY, h1, rfl⟩ := hj; exact ⟨bY, h1, Pa hn hc2 (List.mem_of_getElem? h1) i⟩
 | map m ix kk sz known =>
   simp only [aA.mL] at h; cases hc : known.isEmpty with
   | false => rw [hc] at h; cases h
   | true =>
     have hk : known = [] := by simpa using hc
     subst hk; refine ⟨⟨rfl, fun p hm => (by cases hm), by rw [hp], [], [], rfl, rfl, fun k _ => ?_⟩, rfl, rfl⟩
     rw [hp]
     congr 1
     unfold res; split
     ·rfl
     ·rw [hn.mp]
 | k7 kk ag ks x it => exact ⟨⟨rfl, rfl, rfl, by rw [hp], fun m hm => by cases hm⟩, rfl, rfl⟩
 | rA T ks a => exact ⟨⟨rfl, rfl, by rw [hp]⟩, rfl, rfl⟩
 | chan c => exact ⟨(by show _ = _; rw [hp]), rfl, rfl⟩
 | _ => cases h
end
def ta : List Ob -> Prog Unit
 | [] => .ret ()
 | o :: r => do vcO o; ta r
theorem gB {env : Env} : ∀ {l : List Ob} {h h' : aL} {u : Unit}, (ta l).bx env h u h' ↔ cL env l /\ h = h'
 | [], h, h', u => by simp only [ta, aT]; exact ⟨fun e => ⟨fun x hx => (by cases hx), e.2⟩, fun e => ⟨trivial, e.2⟩⟩
 | o :: r, h, h', u => by
   simp only [ta, run_bind, Rf, gB]; constructor
   ·rintro ⟨_, _, ⟨h1, rfl⟩, h2, rfl⟩; exact ⟨fun x hx => by rcases List.mem_cons.1 hx with rfl | hx; exact h1; exact h2 x hx, rfl⟩
   ·rintro ⟨h1, rfl⟩; exact ⟨(), _, ⟨h1 o (List.mem_cons_self ..), rfl⟩, fun x hx => h1 x (List.mem_cons_of_mem _ hx), rfl⟩
theorem run_get {α : Type} {env : Env} {n : Nat} {k : aA -> Prog α} {h h' : aL} {b : α} : (Prog.get n k).bx env h b h' ↔ ∃ o, ay h n = some o /\ (k o).bx env h b h' := Iff.rfl
theorem kU {env : Env} : ∀ {hp : aQ} {l r : List (Nat × Nat)} {h h' : aL}, (tU hp l).bx env h r h' -> h = h'
 | [], l, r, h, h', he => by simp only [tU, aT] at he; exact he.2
 | (m, o) :: hp, l, r, h, h', he => by
   unfold tU at he; split at he
   ·exact kU he
   ·obtain ⟨x, _, h2⟩ := run_get.1 he; exact kU h2
theorem E4 {env : Env} {sl : List SV} {H : Head} {r : List (Nat × Nat)} {h h' : aL} (he : (HN sl H).bx env h r h') : h = h' := by
 simp only [HN, run_bind] at he; obtain ⟨_, _, h1, _, _, h2, h3⟩ := he; rw [kU h1, kU h2, kU h3]
def xL (pr : Nat -> E) (cx : Nat -> Bool) (σ : Nat -> Nat) : aQ -> Prog Unit
 | [] => .ret ()
 | (m, o') :: r => do
   let o <- fe (mb σ o' m)
   aS (EH o || (o.mR && o'.mR)) "entry: an object that has no place"
   let es <- aY (Qn pr cx σ o o') "entry: an object"
   ta es
   xL pr cx σ r
theorem s8 {env e : Env} {pr : Nat -> E} {cx : Nat -> Bool} (hn : cY env e pr cx) {σ : Nat -> Nat} {S : List Nat} : ∀ {hp : aQ} {h h' : aL} {u : Unit}, (xL pr cx σ hp).bx env h u h' -> (∀ x ∈ hp, x.2.owner = true \/ x.2.mR = true -> mb σ x.2 x.1 ∈ S) ->
    h = h' /\ s7 env e σ h S hp /\ ∀ x ∈ hp, x.2.mR = false -> ∃ o, ay h (σ x.1) = some o /\ EH o = true
 | [], h, h', u, he, _ => by simp only [xL, aT] at he; exact ⟨he.2, trivial, fun x hx => by cases hx⟩
 | (m, o') :: r, h, h', u, he, hS => by
   simp only [xL, run_bind, aU, aq, ae, gB] at he; obtain ⟨o, _, ⟨ho, rfl⟩, _, _, ⟨hpl, rfl⟩, es, _, ⟨hes, rfl⟩, _, _, ⟨ht, rfl⟩, he⟩ := he; obtain ⟨rfl, h2, h3⟩ := s8 hn he (fun x hx => hS x (List.mem_cons_of_mem _ hx)); refine ⟨rfl, ⟨?_, h2⟩, fun x hx => ?_⟩
   ·rw [ho]; exact ⟨GA hn hes ht, fun ho' => hS _ (List.mem_cons_self ..) ho'⟩
   ·rcases List.mem_cons.1 hx with rfl | hx
    ·intro hna; rw [show ((m, o').2).mR = o'.mR from rfl] at hna; unfold mb at ho; rw [hna] at ho hpl; rw [Bool.and_false, Bool.or_false] at hpl; exact ⟨o, ho, hpl⟩
    ·exact h3 x hx
def FL : List (E × Nat) -> Prog Nat
 | [] => .fail "no exit"
 | (c, ν) :: r => do
   let b <- BJ c
   match b with
   | true => return ν
   | false => FL r
theorem td {env : Env} : ∀ {l : List (E × Nat)} {ν : Nat} {h h' : aL}, (FL l).bx env h ν h' -> h = h'
 | [], _, _, _, he => he.elim
 | (c, m) :: r, ν, h, h', he => by
   simp only [FL, run_bind, gX] at he; obtain ⟨b, _, ⟨_, rfl⟩, he⟩ := he; cases b with
   | true => simp only [run_pure] at he; exact he.2
   | false => exact td he
theorem BB {env e : Env} {pr : Nat -> E} {cx : Nat -> Bool} (hn : cY env e pr cx) : ∀ {l : List (E × Nat)} {ν m : Nat} {h h' : aL} {xs : List Ob}, (FL (l.map fun x => (x.1.aR pr, x.2))).bx env h ν h' -> aj.ez l m = some xs -> cL e xs -> ν = m
 | [], _, _, _, _, _, he, _, _ => he.elim
 | (c, ν0) :: r, ν, m, h, h', xs, he, hx, ht => by
   simp only [List.map_cons, FL, run_bind, gX] at he; obtain ⟨b, _, ⟨hb, rfl⟩, he⟩ := he; rw [E.aO hn] at hb; unfold aj.ez at hx; cases hm : Nat.beq ν0 m with
   | true =>
     rw [hm] at hx; simp only [cond_true, Option.some.injEq] at hx; obtain rfl := Nat.eq_of_beq_eq_true hm; cases b with
     | true => simp only [run_pure] at he; exact he.1.symm
     | false =>
       exfalso
       have : (c.den e).B = true := by
        cases hs : c.same (.bl true) with
        | true => rw [E.ax hs]; rfl
        | false =>
          rw [hs] at hx; subst hx; exact ht _ (List.mem_singleton.2 rfl)
       rw [hb] at this; cases this
   | false =>
     rw [hm] at hx; simp only [cond_false, Option.map_eq_some_iff] at hx; obtain ⟨ys, hy, rfl⟩ := hx; have hc : ((lS c).den e).B = true := ht _ (List.mem_cons_self ..); rw [ij, hb] at hc; cases b with
     | true => cases hc
     | false => exact BB hn he hy fun x hx => ht x (List.mem_cons_of_mem _ hx)
def kG (ps : List Nat) (a b : E) (θ : List (Nat × E)) : List (Nat × E) :=
 match b with
 | .v p => cond (qm p ps && !(θ.any fun x => Nat.beq x.1 p)) ((p, a) :: θ) θ
 | _ => θ
mutual
def uni (ps : List Nat) : SV -> SV -> List (Nat × E) -> List (Nat × E)
 | .int _ a, .int _ b, θ => kG ps a b θ
 | .bool a, .bool b, θ => kG ps a b θ
 | .str a, .str b, θ => kG ps a b θ
 | .cg _ a, .cg _ b, θ => kG ps a b θ
 | .pq _ a _, .pq _ b _, θ => kG ps a b θ
 | .dC _ a i _, .dC _ b k _, θ => kG ps i k (kG ps a b θ)
 | .gV _ a, .cg _ b, θ => kG ps a b θ
 | .gV _ a, .gV _ b, θ => kG ps a b θ
 | .cr, .cg _ b, θ => kG ps (.il 0) b θ
 | .sl _ _ a c, .sl _ _ b d, θ => kG ps c d (kG ps a b θ)
 | .eh _ x, .eh _ y, θ => uni ps x y θ
 | .agg a, .agg b, θ => unis ps a b θ
 | .fq a, .fq b, θ => unis ps a b θ
 | .fn _ a c, .fn _ b d, θ => unis ps c d (unis ps a b θ)
 | _, _, θ => θ
def unis (ps : List Nat) : List SV -> List SV -> List (Nat × E) -> List (Nat × E)
 | x :: a, y :: b, θ => unis ps a b (uni ps x y θ)
 | _, _, θ => θ
end
def Wu (ps : List Nat) : List ch -> List ch -> List (Nat × E) -> List (Nat × E)
 | .tc _ a _ :: l, .tc _ b _ :: m, θ => Wu ps l m (kG ps a b θ)
 | _ :: l, _ :: m, θ => Wu ps l m θ
 | _, _, θ => θ
def af4 (ps : List Nat) : aA -> aA -> List (Nat × E) -> List (Nat × E)
 | .cells _ a, .cells _ b, θ => unis ps a b θ
 | .row _ _ a c _, .row _ _ b d _, θ => Wu ps c d (kG ps a b θ)
 | .qW _ a _, .qW _ b _, θ => kG ps a b θ
 | .map _ a _ c _, .map _ b _ d _, θ => kG ps c d (kG ps a b θ)
 | .ar _ _ a, .ar _ _ b, θ => kG ps a b θ
 | .k7 _ _ _ a _, .k7 _ _ _ b _, θ => kG ps a b θ
 | .pf _ _ a, .pf _ _ b, θ => kG ps a b θ
 | .rA _ _ a, .rA _ _ b, θ => kG ps a b θ
 | .map _ _ _ _ _, .k7 _ _ _ b _, θ => kG ps (.il 0) b θ
 | .chan a, .chan b, θ => kG ps a b θ
 | _, _, θ => θ
def T8 (ps : List Nat) (sl : List SV) : List (Nat × SV) -> List (Nat × E) -> List (Nat × E)
 | [], θ => θ
 | (j, y) :: r, θ => T8 ps sl r (match nth sl j with | some x => uni ps x y θ | none => θ)
def KF (ps : List Nat) (σ : Nat -> Nat) : aQ -> List (Nat × E) -> Prog (List (Nat × E))
 | [], θ => .ret θ
 | (m, o') :: r, θ => .get (mb σ o' m) fun o => KF ps σ r (af4 ps o o' θ)
theorem yN {env : Env} {ps : List Nat} {σ : Nat -> Nat} : ∀ {hp : aQ} {θ r : List (Nat × E)} {h h' : aL}, (KF ps σ hp θ).bx env h r h' -> h = h'
 | [], θ, r, h, h', he => by simp only [KF, aT] at he; exact he.2
 | (m, o) :: hp, θ, r, h, h', he => by
   unfold KF at he; obtain ⟨x, _, h2⟩ := run_get.1 he; exact yN h2
theorem uR {env : Env} {a b : aa} : aa.aB env (a ++ b) ↔ aa.aB env a /\ aa.aB env b :=
 ⟨fun h => ⟨fun e t hm => h e t (List.mem_append_left _ hm), fun e t hm => h e t (List.mem_append_right _ hm)⟩, fun h => lr h.1 h.2⟩
def oH (kd : TypeId -> Option aJ) : List Nat -> List SV -> Prog (List SV)
 | [], sl => .ret sl
 | n :: r, sl => do
   let o <- fe n
   let x <- aY (qL kd o) "entry: a row that is no data"
   ta x.2.2.2.2
   iG n .gone
   oH kd r (SV.frzs ⟨n, x.2.1, x.2.2.2.1, x.1, x.2.2.1⟩ sl)
theorem y4 {env : Env} {kd : TypeId -> Option aJ} {A : Anchor} {a : Act} {nx : Nat} {w : World} {df : List (FuncId × List SV)} : ∀ {l : List Nat} {sl sl' : List SV} {h h' : aL} {ρ : af}, (oH kd l sl).bx env h sl' h' -> Sat env A ρ ⟨sl, df⟩ h nx a w -> ∃ ρ', ρ.le ρ' /\ Sat env A ρ' ⟨sl', df⟩ h' nx a w
 | [], sl, sl', h, h', ρ, hr, hs => by
   simp only [oH, aT] at hr; obtain ⟨rfl, rfl⟩ := hr; exact ⟨ρ, af.le_refl ρ, hs⟩
 | n :: r, sl, sl', h, h', ρ, hr, hs => by
   simp only [oH, run_bind, aU, ae, gB, bD] at hr; obtain ⟨o, _, ⟨ho, rfl⟩, x, _, ⟨hx, rfl⟩, _, _, ⟨ht, rfl⟩, _, _, rfl, hr⟩ := hr; obtain ⟨ks, sz, e, len, obs⟩ := x; obtain ⟨ρ1, hle, hpl, HS, hv, hleft⟩ := hs.hs.qL ho hx ht; obtain ⟨ρ2, h2, hs2⟩ := y4 hr (ρ := ρ1) ⟨HS, SV.frzs_ok (F := ⟨n, sz, len, ks, e⟩) hle hv hs.sl, hs.df.mono hle, fun m p hp => hs.nx m p (by rw [<- show ρ1 m = ρ m from congrFun hpl m]; exact hp)⟩
   exact ⟨ρ2, af.le_trans hle h2, hs2⟩
theorem wN {env : Env} {kd : TypeId -> Option aJ} : ∀ {l : List Nat} {sl sl' : List SV} {h h' : aL}, (oH kd l sl).bx env h sl' h' -> sl'.length = sl.length
 | [], sl, sl', h, h', hr => by simp only [oH, aT] at hr; rw [hr.1]
 | n :: r, sl, sl', h, h', hr => by
   simp only [oH, run_bind, aU, ae, gB, bD] at hr; obtain ⟨o, _, ⟨ho, rfl⟩, x, _, ⟨hx, rfl⟩, _, _, ⟨ht, rfl⟩, _, _, rfl, hr⟩ := hr; rw [wN hr, SV.jt]
theorem az.Z9 {env : Env} {w0 : Anchor} {ρ : af} {h : aL} {w : World} {F : OC} (HS : az env w0 ρ h w) (hv : qz env ρ ρ F.n F.sz F.len F.ks F.e) {n : Nat} {o : aA} (hn : ay h n = some o) : az env w0 ρ (bf h n (o.qC F)) w := by
 have back2 : ∀ m o', ay (bf h n (o.qC F)) m = some o' -> o'.owner = true -> ∃ o0, ay h m = some o0 /\ o0.owner = true := fun m o' hm ho' => by
  rw [ai] at hm
  by_cases e : m = n
  ·rw [if_pos e] at hm; injection hm with hm; subst hm; rw [aA.zz] at ho'; exact ⟨o, by rw [e]; exact hn, ho'⟩
  ·rw [if_neg e] at hm; exact ⟨o', hm, ho'⟩
 refine ⟨HS.below, fun m o' hm => ?_, fun m k x y p p' hm hk hx hy hp hp' he => ?_, ?_, HS.fz.at_, fun b x m o' p hb hm ho' hp => ?_, HS.fz.iM⟩
 ·rw [ai] at hm
  by_cases e : m = n
  ·rw [if_pos e] at hm; injection hm with hm; subst hm; rw [e]; exact aA.xG (af.le_refl ρ) rfl hv (HS.bk n o hn)
  ·rw [if_neg e] at hm; exact HS.bk m o' hm
 ·obtain ⟨x0, a1, a2⟩ := back2 m x hm hx; obtain ⟨y0, b1, b2⟩ := back2 k y hk hy; exact HS.inj m k x0 y0 p p' a1 b1 a2 b2 hp hp' he
 ·refine HS.ar.cU (Fz.le_refl _) rfl (fun m T ks' e' hm => ?_) (fun T ks' e' hm => ⟨ks', e', ?_⟩) (fun _ _ _ _ _ _ _ _ => rfl) (Nat.le_refl _) (fun _ h => h) rfl (fun m o' q' hm ho' hq => .inl ?_) (fun _ _ _ _ _ _ _ _ h => h)
  ·rw [ai] at hm
   by_cases e : m = n
   ·rw [if_pos e] at hm; injection hm with hm; rw [e, hn]; cases o <;> first | (rw [<- hm]; rfl) | (cases hm; done)
   ·rw [if_neg e] at hm; exact hm
  ·rw [ai]
   by_cases e : dI T = n
   ·rw [if_pos e]; rw [e, hn] at hm; injection hm with hm; rw [hm]; rfl
   ·rw [if_neg e]; exact hm
  ·obtain ⟨y0, b1, b2⟩ := back2 m o' hm ho'; exact ⟨m, y0, q', b1, b2, hq, rfl⟩
 ·obtain ⟨y0, b1, b2⟩ := back2 m o' hm ho'; exact HS.fz.free b x m y0 p hb b1 b2 hp
theorem JQ {sz : Nat} {len e : E} {ks : aJ} : (kD sz len ks e).owner = false := by
 unfold kD; cases Nat.blt 0 sz <;> rfl
theorem Ez {sz : Nat} {len e : E} {ks : aJ} : (kD sz len ks e).mR = false := by
 unfold kD; cases Nat.blt 0 sz <;> rfl
theorem az.G4 {env : Env} {w0 : Anchor} {ρ : af} {h : aL} {w : World} {n sz : Nat} {len e : E} {ks : aJ} (HS : az env w0 ρ (bf h n .gone) w) (hr : (kD sz len ks e).Rel env w0 ρ n w) : az env w0 ρ (bf h n (kD sz len ks e)) w := by
 have back2 : ∀ m o', ay (bf h n (kD sz len ks e)) m = some o' -> o'.owner = true -> ay (bf h n .gone) m = some o' := fun m o' hm ho' => by
  rw [ai] at hm ⊢
  by_cases e1 : m = n
  ·rw [if_pos e1] at hm; injection hm with hm; subst hm; rw [JQ] at ho'; cases ho'
  ·rw [if_neg e1] at hm ⊢; exact hm
 refine ⟨HS.below, fun m o' hm => ?_, fun m k x y p p' hm hk hx hy hp hp' he => HS.inj m k x y p p' (back2 m x hm hx) (back2 k y hk hy) hx hy hp hp' he, ?_, HS.fz.at_, fun b x m o' p hb hm ho' hp => HS.fz.free b x m o' p hb (back2 m o' hm ho') ho' hp, HS.fz.iM⟩
 ·by_cases e1 : m = n
  ·rw [ai, if_pos e1] at hm; injection hm with hm; subst hm; rw [e1]; exact hr
  ·exact HS.bk m o' (by rw [ai, if_neg e1] at hm ⊢; exact hm)
 ·have g : ay (bf h n .gone) n = some .gone := by rw [ai, if_pos rfl]
  have e0 : bf (bf h n .gone) n (kD sz len ks e) = bf h n (kD sz len ks e) := by
   funext k
   show (if k = n then _ else if k = n then _ else _) = (if k = n then _ else _)
   by_cases e1 : k = n <;> simp [e1]
  obtain ⟨a1, a2⟩ := rJ (x := kD sz len ks e) g rfl Ez; rw [e0] at a1 a2; exact HS.ar.cU (Fz.le_refl _) rfl a1 (fun T ks' e' hm => ⟨ks', e', a2 _ _ _ hm⟩) (fun _ _ _ _ _ _ _ _ => rfl) (Nat.le_refl _) (fun _ h => h) rfl (fun m o' q' hm ho' hq => .inl ⟨m, o', q', back2 m o' hm ho', ho', hq, rfl⟩) (fun _ _ _ _ _ _ _ _ h => h)
theorem SV.Rel.K9 {env : Env} {ρ ρ' : af} (h : ρ'.pl = ρ.pl) {n s : Nat} {lo l : E} {v : Value} (hr : (SV.sl n s lo l).Rel env ρ' v) : (SV.sl n s lo l).Rel env ρ v := by
 have e : ∀ m, ρ' m = ρ m := fun m => congrFun h m; simp only [SV.Rel, e] at hr ⊢; exact hr
theorem SV.Rel.J1 {env : Env} {ρ ρ' : af} (h : ρ'.pl = ρ.pl) {n j : Nat} {v : Value} (hr : (SV.ptr n (.c j)).Rel env ρ' v) : (SV.ptr n (.c j)).Rel env ρ v := by
 have e : ∀ m, ρ' m = ρ m := fun m => congrFun h m; simp only [SV.Rel, e] at hr ⊢; exact hr
def ld (kd : TypeId -> Option aJ) (n : Nat) : List Nat -> List SV -> Prog (List SV)
 | [], sl => .ret sl
 | m :: r, sl => do
   let o <- fe m
   let x <- aY (qL kd o) "entry: a row in cells that is no data"
   ta x.2.2.2.2
   iG m (kD x.2.1 x.2.2.2.1 x.1 x.2.2.1)
   let y <- fe n
   iG n (y.qC ⟨m, x.2.1, x.2.2.2.1, x.1, x.2.2.1⟩)
   ld kd n r (SV.frzs ⟨m, x.2.1, x.2.2.2.1, x.1, x.2.2.1⟩ sl)
theorem yb {env : Env} {kd : TypeId -> Option aJ} {A : Anchor} {a : Act} {nx : Nat} {w : World} {df : List (FuncId × List SV)} {n : Nat} : ∀ {l : List Nat} {sl sl' : List SV} {h h' : aL} {ρ : af}, (ld kd n l sl).bx env h sl' h' -> Sat env A ρ ⟨sl, df⟩ h nx a w -> ∃ ρ', ρ.le ρ' /\ Sat env A ρ' ⟨sl', df⟩ h' nx a w
 | [], sl, sl', h, h', ρ, hr, hs => by
   simp only [ld, aT] at hr; obtain ⟨rfl, rfl⟩ := hr; exact ⟨ρ, af.le_refl ρ, hs⟩
 | m :: r, sl, sl', h, h', ρ, hr, hs => by
   simp only [ld, run_bind, aU, ae, gB, bD] at hr; obtain ⟨o, _, ⟨ho, rfl⟩, x, _, ⟨hx, rfl⟩, _, _, ⟨ht, rfl⟩, _, _, rfl, y, _, ⟨hy, rfl⟩, _, _, rfl, hr⟩ := hr; obtain ⟨ks, sz, e, len, obs⟩ := x; obtain ⟨ρ1, hle, hpl, HS, hv, hleft⟩ := hs.hs.qL ho hx ht; have hv1 : qz env ρ1 ρ1 m sz len ks e := ⟨fun h0 v hr => hv.1 h0 v (SV.Rel.K9 hpl hr), fun h0 j v hr => hv.2 h0 j v (SV.Rel.J1 hpl hr)⟩; have HS1 := az.Z9 (F := ⟨m, sz, len, ks, e⟩) (az.G4 HS hleft) hv1 hy; obtain ⟨ρ2, h2, hs2⟩ := yb hr (ρ := ρ1) ⟨HS1, SV.frzs_ok (F := ⟨m, sz, len, ks, e⟩) hle hv hs.sl, hs.df.mono hle, fun m p hp => hs.nx m p (by rw [<- show ρ1 m = ρ m from congrFun hpl m]; exact hp)⟩
   exact ⟨ρ2, af.le_trans hle h2, hs2⟩
theorem ue {env : Env} {kd : TypeId -> Option aJ} {n : Nat} : ∀ {l : List Nat} {sl sl' : List SV} {h h' : aL}, (ld kd n l sl).bx env h sl' h' -> sl'.length = sl.length
 | [], sl, sl', h, h', hr => by simp only [ld, aT] at hr; rw [hr.1]
 | m :: r, sl, sl', h, h', hr => by
   simp only [ld, run_bind, aU, ae, gB, bD] at hr; obtain ⟨o, _, ⟨ho, rfl⟩, x, _, ⟨hx, rfl⟩, _, _, ⟨ht, rfl⟩, _, _, rfl, y, _, ⟨hy, rfl⟩, _, _, rfl, hr⟩ := hr; rw [ue hr, SV.jt]
def o7 (kd : TypeId -> Option aJ) : List (Nat × aA) -> List SV -> Prog (List SV)
 | [], sl => .ret sl
 | (n, o') :: r, sl => do
   let o <- fe n
   let sl1 <- ld kd n (od (S4 o o')) sl
   o7 kd r sl1
theorem yS {env : Env} {kd : TypeId -> Option aJ} {A : Anchor} {a : Act} {nx : Nat} {w : World} {df : List (FuncId × List SV)} : ∀ {l : List (Nat × aA)} {sl sl' : List SV} {h h' : aL} {ρ : af}, (o7 kd l sl).bx env h sl' h' -> Sat env A ρ ⟨sl, df⟩ h nx a w -> ∃ ρ', ρ.le ρ' /\ Sat env A ρ' ⟨sl', df⟩ h' nx a w
 | [], sl, sl', h, h', ρ, hr, hs => by
   simp only [o7, aT] at hr; obtain ⟨rfl, rfl⟩ := hr; exact ⟨ρ, af.le_refl ρ, hs⟩
 | (n, o') :: r, sl, sl', h, h', ρ, hr, hs => by
   simp only [o7, run_bind, aU] at hr; obtain ⟨o, _, ⟨ho, rfl⟩, sl1, h1, g1, g2⟩ := hr; obtain ⟨ρ1, l1, s1⟩ := yb g1 hs; obtain ⟨ρ2, l2, s2⟩ := yS g2 s1; exact ⟨ρ2, af.le_trans l1 l2, s2⟩
theorem wm {env : Env} {kd : TypeId -> Option aJ} : ∀ {l : List (Nat × aA)} {sl sl' : List SV} {h h' : aL}, (o7 kd l sl).bx env h sl' h' -> sl'.length = sl.length
 | [], sl, sl', h, h', hr => by simp only [o7, aT] at hr; rw [hr.1]
 | (n, o') :: r, sl, sl', h, h', hr => by
   simp only [o7, run_bind, aU] at hr; obtain ⟨o, _, ⟨ho, rfl⟩, sl1, h1, g1, g2⟩ := hr; rw [wm g2, ue g1]
def LN : aA -> Option E
 | .k7 _ _ _ e _ => some e
 | .map _ _ _ (.il 0) [] => some (.il 0)
 | _ => none
def Bn (kd : TypeId -> Option aJ) (sl : List SV) : List (Nat × Nat) -> List (Nat × E) -> Prog (List (Nat × E))
 | [], θ => .ret θ
 | (p, j) :: r, θ =>
   match nth sl j with
   | some .cr => Bn kd sl r ((p, .il 0) :: θ)
   | some (.cg _ e) => Bn kd sl r ((p, e) :: θ)
   | some (.sl n _ _ _) => .get n fun o => Bn kd sl r (match qL kd o with | some x => (p, x.2.2.1) :: θ | none => θ)
   | some (.map n) => .get n fun o => Bn kd sl r (match LN o with | some e => (p, e) :: θ | none => θ)
   | _ => Bn kd sl r θ
theorem j7 {env : Env} {kd : TypeId -> Option aJ} {sl : List SV} : ∀ {l : List (Nat × Nat)} {θ r : List (Nat × E)} {h h' : aL}, (Bn kd sl l θ).bx env h r h' -> h = h'
 | [], θ, r, h, h', he => by simp only [Bn, aT] at he; exact he.2
 | (p, j) :: l, θ, r, h, h', he => by
   unfold Bn at he; split at he
   ·exact j7 he
   ·exact j7 he
   ·obtain ⟨x, _, h2⟩ := run_get.1 he; exact j7 h2
   ·obtain ⟨x, _, h2⟩ := run_get.1 he; exact j7 h2
   ·exact j7 he
def La : SV -> Nat -> Option (Nat × Nat)
 | .ptr n (.c o), _ => some (n, o)
 | .eh _ (.ptr n (.c o)), _ => some (n, o)
 | .fn _ a c, k => match nth (a ++ c) k with | some (.ptr n (.c o)) => some (n, o) | _ => none
 | _, _ => none
def V5 : SV -> Option E
 | .int _ e => some e
 | .str e => some e
 | .bool e => some e
 | .cg _ e => some e
 | .cr => some (.il 0)
 | _ => none
def CE (kd : TypeId -> Option aJ) : Nat -> Nat -> List Nat -> Prog (Option E)
 | _, _, [] => .ret none
 | n, o, k :: p => .get n fun ob => match ob with
   | .cells _ cs => cond (Nat.ble 1000 k) (.ret (match nth cs (o + (k - 1000)) with | some (.sl _ _ _ e) => some e | _ => none)) <| match nth cs (o + k) with
     | some (.sl m _ _ _) => .get m fun x => .ret (match qL kd x with | some x => some x.2.2.1 | none => none)
     | some (.map m) => .get m fun x => .ret (LN x)
     | some x => match La x 0 with
       | some (m, q) => CE kd m q p
       | none => .ret (V5 x)
     | none => .ret none
   | _ => .ret none
theorem vH {env : Env} {kd : TypeId -> Option aJ} : ∀ {p : List Nat} {n o : Nat} {r : Option E} {h h' : aL}, (CE kd n o p).bx env h r h' -> h = h'
 | [], n, o, r, h, h', he => by simp only [CE, aT] at he; exact he.2
 | k :: p, n, o, r, h, h', he => by
   unfold CE at he; obtain ⟨x, _, h2⟩ := run_get.1 he; split at h2
   ·cases hk : Nat.ble 1000 k with
    | true => rw [hk] at h2; exact (aT.1 h2).2
    | false =>
    rw [hk, cond_false] at h2; split at h2
    ·obtain ⟨y, _, h3⟩ := run_get.1 h2; exact (aT.1 h3).2
    ·obtain ⟨y, _, h3⟩ := run_get.1 h2; exact (aT.1 h3).2
    ·split at h2
     ·exact vH h2
     ·exact (aT.1 h2).2
    ·exact (aT.1 h2).2
   ·exact (aT.1 h2).2
def uv (kd : TypeId -> Option aJ) (sl : List SV) : List (Nat × Nat × Nat × List Nat) -> List (Nat × E) -> Prog (List (Nat × E))
 | [], θ => .ret θ
 | (p, j, c, path) :: r, θ =>
   cond (Nat.ble 500000 c) (.get c fun x => uv kd sl r (match x with | .ar _ _ e => (p, e) :: θ | _ => θ)) <|
   match (nth sl j).bind (fun x => La x c) with
   | some (n, o) => do
     let e <- CE kd n o path
     match e with
     | some e => uv kd sl r ((p, e) :: θ)
     | none => uv kd sl r θ
   | none => uv kd sl r θ
theorem kK {env : Env} {kd : TypeId -> Option aJ} {sl : List SV} : ∀ {l : List (Nat × Nat × Nat × List Nat)} {θ r : List (Nat × E)} {h h' : aL}, (uv kd sl l θ).bx env h r h' -> h = h'
 | [], θ, r, h, h', he => by simp only [uv, aT] at he; exact he.2
 | (p, j, c, path) :: l, θ, r, h, h', he => by
   unfold uv at he; cases hc : Nat.ble 500000 c with
   | true =>
     rw [hc] at he; obtain ⟨x, _, h2⟩ := run_get.1 he; exact kK h2
   | false =>
   rw [hc, cond_false] at he; split at he
   ·simp only [run_bind] at he; obtain ⟨e, h1, g1, g2⟩ := he; obtain rfl := vH g1; split at g2
    ·exact kK g2
    ·exact kK g2
   ·exact kK he
def Vc (kd : TypeId -> Option aJ) (sl : List SV) (l : List (Nat × Nat)) (m : List (Nat × Nat × Nat × List Nat)) (θ : List (Nat × E)) : Prog (List (Nat × E)) := do
 let θ1 <- Bn kd sl l θ
 uv kd sl m θ1
theorem JG {env : Env} {kd : TypeId -> Option aJ} {sl : List SV} {l : List (Nat × Nat)} {m : List (Nat × Nat × Nat × List Nat)} {θ r : List (Nat × E)} {h h' : aL} (he : (Vc kd sl l m θ).bx env h r h') : h = h' := by
 unfold Vc at he; rw [run_bind] at he; obtain ⟨e, h1, g1, g2⟩ := he; obtain rfl := j7 g1; exact kK g2
namespace aj
def xg (D : aj) (l : List (Nat × Nat)) (nx k : Nat) : Nat := cond (qm k D.fixed) (sig l nx k) (nx + k)
def HH (D : aj) (x : Nat × aA) : Bool := x.2.owner && !(qm x.1 D.fixed)
def G6 (D : aj) (Hx : Head) (nx : Nat) : List Nat := (Hx.h.filter D.HH).map fun x => nx + x.1
def zA (x : Nat × aA) : Bool := !x.2.mR
def tlL (D : aj) (l : List (Nat × Nat)) (nx : Nat) (Hx : Head) : List (Nat × Nat) := (Hx.h.filter zA).map fun x => (D.xg l nx x.1, x.1)
def SY (D : aj) (l : List (Nat × Nat)) (nx : Nat) (n : Nat) : aQ -> Option Nat
 | [] => none
 | (k, o) :: r => cond (qm k D.fixed && o.owner && Nat.beq (sig l nx k) n) (some k) (D.SY l nx n r)
def KE (D : aj) (l : List (Nat × Nat)) (nx : Nat) (Sa S : List Nat) (Hx : Head) : List (Nat × Option Nat) :=
 Sa.map (fun n => (n, some n)) ++ (S.map (fun n => (n, D.SY l nx n Hx.h)) ++ (Hx.h.filter D.HH).map fun x => (nx + x.1, some x.1))
def TZ (D : aj) (l : List (Nat × Nat)) (θ : List (Nat × E)) (nx : Nat) (Hx : Head) : Option Nat -> aA
 | none => .gone
 | some k =>
   match bZ Hx.h k with
   | some o => o.pZ (D.xg l nx) (qZ θ)
   | none => .gone
def xO (D : aj) (l : List (Nat × Nat)) (θ : List (Nat × E)) (nx : Nat) (Sa S : List Nat) (Hx : Head) : List (Nat × aA) := (D.KE l nx Sa S Hx).map fun x => (x.1, D.TZ l θ nx Hx x.2)
def FW (D : aj) (l : List (Nat × Nat)) (θ : List (Nat × E)) (nx : Nat) (tl : List (Nat × Nat)) (Hx : Head) : List (Nat × Option Nat) -> Option (List Ob)
 | [] => some []
 | (_, none) :: r => D.FW l θ nx tl Hx r
 | (n, some k) :: r =>
   match bZ Hx.h k with
   | some (.ar T _ _) => cond (Nat.beq n k && Nat.beq n (dI T)) (D.FW l θ nx tl Hx r) none
   | some oE => cond (Nat.beq (sig tl Hx.m n) k) (vW (oE.mL (sig tl Hx.m) (D.xg l nx) (qZ θ) D.cx) (D.FW l θ nx tl Hx r)) none
   | none => none
def Tj (Sa : List Nat) (us : List (Nat × aA)) : Bool := Sa.all fun n => us.all fun y => cond (Nat.beq y.1 n) (match y.2 with | .ar T _ _ => Nat.beq n (dI T) | _ => false) true
def aeY (Sa : List Nat) (c : aQ) : Bool := c.all fun x => match x.2 with | .ar T _ _ => qm (dI T) Sa | _ => true
theorem PC {a b : Nat} (h : dI a = dI b) : a = b := by unfold dI at h; omega
theorem M3 {Sa : List Nat} {us : List (Nat × aA)} (h : Tj Sa us = true) {T : Nat} (hT : dI T ∈ Sa) {o : aA} (hm : (dI T, o) ∈ us) : ∃ ks x, o = .ar T ks x := by
 have := List.all_eq_true.1 (List.all_eq_true.1 h _ hT) _ hm; simp only [Nat.beq_refl, cond_true] at this; split at this
 ·rename_i T' ks x; have e := PC (Nat.eq_of_beq_eq_true this); subst e; exact ⟨ks, x, rfl⟩
 ·cases this
theorem C6 {c : aQ} {n : Nat} {o : aA} (h : bZ c n = some o) : (n, o) ∈ c := by
 induction c with
 | nil => cases h
 | cons y r ih =>
   obtain ⟨k, z⟩ := y; unfold bZ at h; cases hb : Nat.beq k n with
   | true => rw [hb] at h; simp only [cond_true, Option.some.injEq] at h; subst h; rw [Nat.eq_of_beq_eq_true hb]; exact List.mem_cons_self ..
   | false => rw [hb] at h; exact List.mem_cons_of_mem _ (ih h)
theorem y9 : ∀ {us : List (Nat × aA)} {h : aL} {n : Nat}, n ∈ us.map (·.1) -> ∃ o, (n, o) ∈ us /\ ay (gR us h) n = some o
 | [], _, _, hm => by cases hm
 | (k, x) :: r, h, n, hm => by
   by_cases hr : n ∈ r.map (·.1)
   ·obtain ⟨o, h1, h2⟩ := y9 (h := bf h k x) hr; exact ⟨o, List.mem_cons_of_mem _ h1, h2⟩
   ·simp only [List.map_cons, List.mem_cons] at hm; rcases hm with rfl | hm
    ·refine ⟨x, List.mem_cons_self .., ?_⟩; show ay (gR r (bf h n x)) n = some x
     have key : ∀ {r : List (Nat × aA)} {h : aL}, n ∉ r.map (·.1) -> ay (gR r h) n = ay h n := by
      intro r
      induction r with
      | nil => intro h _; rfl
      | cons y r ih =>
        intro h hn; obtain ⟨k, z⟩ := y; simp only [List.map_cons, List.mem_cons, not_or] at hn; show ay (gR r (bf h k z)) n = _; rw [ih hn.2, ai, if_neg hn.1]
     rw [key hr, ai, if_pos rfl]
    ·exact absurd hm hr
theorem D5 {n : Nat} : ∀ {r : List (Nat × aA)} {h : aL}, n ∉ r.map (·.1) -> ay (gR r h) n = ay h n
 | [], _, _ => rfl
 | (k, z) :: r, h, hn => by
   simp only [List.map_cons, List.mem_cons, not_or] at hn; show ay (gR r (bf h k z)) n = _; rw [D5 hn.2, ai, if_neg hn.1]
def SA (D : aj) (l : List (Nat × Nat)) (θ : List (Nat × E)) (nx : Nat) (Hx : Head) : List (Nat × SV) := Hx.ov.map fun x => (x.1, x.2.pZ (D.xg l nx) (qZ θ))
def aeV (D : aj) (l : List (Nat × Nat)) (nx : Nat) (tl : List (Nat × Nat)) (Hx : Head) : Bool :=
 Hx.ov.all (fun x => Nat.blt x.1 D.N && x.2.mL (sig tl Hx.m) (D.xg l nx) D.cx) && allDiff (Hx.ov.map (·.1))
def Ts (D : aj) (l : List (Nat × Nat)) (θ : List (Nat × E)) (nx : Nat) (Sa S : List Nat) (Hx : Head) : Bool :=
 Hx.h.all (fun x => bS x.2) && allDiff ((D.tlL l nx Hx).map (·.2)) && (Hx.h.filter zA).all (fun x => Nat.blt x.1 Hx.m && (qm x.1 D.fixed || x.2.owner)) && Nat.ble (nx + Hx.m) 500000 && Tj Sa (D.xO l θ nx Sa S Hx) && aeY Sa Hx.h && D.aeV l nx (D.tlL l nx Hx) Hx
def RM (D : aj) (fr : Fr) (l : List (Nat × Nat)) (θ : List (Nat × E)) (nx : Nat) (Sa S : List Nat) (ν : Nat) : Prog (eI × Fr × Nat) := do
 aS (D.Ts l θ nx Sa S (D.hx ν)) "exit: names"
 let es2 <- aY (D.FW l θ nx (D.tlL l nx (D.hx ν)) (D.hx ν) (D.KE l nx Sa S (D.hx ν))) "exit: objects"
 ta es2
 C7 (D.xO l θ nx Sa S (D.hx ν))
 return (D.oN ν, ⟨Cq (D.SA l θ nx (D.hx ν)) (xy D.js fr.sl), fr.df⟩, nx + (D.hx ν).m)
def dB (D : aj) (fr : Fr) (nx : Nat) : Option (Prog (eI × Fr × Nat)) :=
 cond ((rU fr.df D.PR && Nat.ble (GB D.PR) 100) && Nat.beq fr.sl.length D.N && Nat.ble D.N 900)
  (cond (D.app fr.sl) (some (do
   let μ <- D.mode fr.sl
   aS (D.nT μ) "entry: mode"
   let sl0 <- oH (CD D.yn) (od (Ff fr.sl (D.hd μ).ov)) fr.sl
   let l <- HN sl0 (D.hd μ)
   let sl <- o7 (CD D.yn) ((D.hd μ).h.map fun x => (mb (sig l nx) x.2 x.1, x.2)) sl0
   aS (allDiff (l.map (·.2)) && l.all (fun x => Nat.blt x.1 (D.hd μ).m) && D.fixed.all (fun k => qm k (((D.hd μ).h.filter zA).map (·.1))) && (D.hd μ).h.all (fun x => bS x.2)) "entry: names"
   let θ1 <- Vc (CD D.yn) sl D.aci D.OP (D.pins sl)
   let θ0 <- KF D.params (sig l nx) (D.hd μ).h (T8 D.params sl (D.hd μ).ov θ1)
   aS ((θ0.map (·.1)).all (fun p => qm p D.params)) "entry: the loop's own variables"
   let θ := (D.r, E.il 0) :: θ0
   let es <- aY (xi (qZ θ) D.cx (sig l nx) sl (D.hd μ).ov) "entry: slots"
   ta (aj.nD (o5 (qZ θ) (D.aV μ ++ D.mf μ)))
   ta es
   xL (qZ θ) D.cx (sig l nx) (D.hd μ).h
   let ν <- FL (D.bz.map fun x => (x.1.aR (qZ θ), x.2))
   D.RM ⟨sl, fr.df⟩ l θ nx (((D.hd μ).h.filter fun x => x.2.mR).map (·.1)) (((D.hd μ).h.filter fun x => x.2.owner).map fun x => sig l nx x.1) ν)) none) none
end aj
def eg (P : Program) (env : Env) (f : FuncId) (key : Nat) (pp : Fr -> Nat -> Option (Prog (eI × Fr × Nat))) : Prop :=
 ∀ (w0 : Anchor) fr nx p h ex fr' h' nx', pp fr nx = some p -> p.bx env h (ex, fr', nx') h' -> nx <= nx' /\ ∀ ρ (a : Act) w (Q : Exit -> Act -> World -> Prop), Sat env w0 ρ fr h nx a w ->
  (∀ ρ' (a' : Act) w', ρ.le ρ' -> Sat env w0 ρ' fr' h' nx' a' w' -> Q ex.den a' w') -> (Code.loop (fR P f key)).wp P Q a w
def eV (P : Program) (env : Env) (f : FuncId) (pp : List SV -> Nat -> Option (Prog (SV × Nat))) : Prop :=
 ∀ (w0 : Anchor) args nx p h r h' nx', pp args nx = some p -> p.bx env h (r, nx') h' -> nx <= nx' /\ ∀ ρ w vs, az env w0 ρ h w -> (∀ n p, ρ n = some p -> n < nx) -> SV.aD env ρ args vs ->
  Calls P f vs.toArray w fun e w' => ∃ ρ' v, e = .returned v /\ ρ.le ρ' /\ az env w0 ρ' h' w' /\ (∀ n p, ρ' n = some p -> n < nx') /\ r.Rel env ρ' v
structure jw where
 fns : List (FuncId × (List SV -> Nat -> Option (Prog (SV × Nat))))
 Yj : List (FuncId × Nat × (Fr -> Nat -> Option (Prog (eI × Fr × Nat))))
def Pw : List (FuncId × (List SV -> Nat -> Option (Prog (SV × Nat)))) -> FuncId -> List SV -> Nat -> Option (Prog (SV × Nat))
 | [], _, _, _ => none
 | (g, p) :: r, f, args, nx => cond (Nat.beq g f) (p args nx) (Pw r f args nx)
def Jy : List (FuncId × Nat × (Fr -> Nat -> Option (Prog (eI × Fr × Nat)))) -> FuncId -> Nat -> Fr -> Nat -> Option (Prog (eI × Fr × Nat))
 | [], _, _, _, _ => none
 | (g, k, p) :: r, f, key, fr, nx => cond (Nat.beq g f && Nat.beq k key) (match p fr nx with | some q => some q | none => Jy r f key fr nx) (Jy r f key fr nx)
def jw.x (c : jw) : dF := ⟨Pw c.fns, fun f k fr nx _ => Jy c.Yj f k fr nx, false⟩
theorem Cf : ∀ {l : List (FuncId × (List SV -> Nat -> Option (Prog (SV × Nat))))} {f : FuncId} {args : List SV} {nx : Nat} {q : Prog (SV × Nat)}, Pw l f args nx = some q -> ∃ x ∈ l, x.1 = f /\ x.2 args nx = some q
 | [], _, _, _, _, h => by cases h
 | (g, p) :: r, f, args, nx, q, h => by
   unfold Pw at h; cases hb : Nat.beq g f with
   | true => rw [hb] at h; exact ⟨(g, p), List.mem_cons_self .., Nat.eq_of_beq_eq_true hb, h⟩
   | false => rw [hb] at h; obtain ⟨x, h1, h2⟩ := Cf h; exact ⟨x, List.mem_cons_of_mem _ h1, h2⟩
theorem CB : ∀ {l : List (FuncId × Nat × (Fr -> Nat -> Option (Prog (eI × Fr × Nat))))} {f : FuncId} {key : Nat} {fr : Fr} {nx : Nat} {q : Prog (eI × Fr × Nat)}, Jy l f key fr nx = some q -> ∃ x ∈ l, x.1 = f /\ x.2.1 = key /\ x.2.2 fr nx = some q
 | [], f, key, fr, nx, q, h => by cases h
 | (g, k, p) :: r, f, key, fr, nx, q, h => by
   unfold Jy at h
   have rest : Jy r f key fr nx = some q -> ∃ x ∈ (g, k, p) :: r, x.1 = f /\ x.2.1 = key /\ x.2.2 fr nx = some q := fun h => by
    obtain ⟨x, h1, h2⟩ := CB h; exact ⟨x, List.mem_cons_of_mem _ h1, h2⟩
   cases hb : (Nat.beq g f && Nat.beq k key) with
   | true =>
     rw [hb] at h; simp only [cond_true] at h; rw [Bool.and_eq_true] at hb; split at h
     ·rename_i q' hq; injection h with h; subst h; exact ⟨(g, k, p), List.mem_cons_self .., Nat.eq_of_beq_eq_true hb.1, Nat.eq_of_beq_eq_true hb.2, hq⟩
     ·exact rest h
   | false => rw [hb] at h; exact rest h
theorem jw.ok {P : Program} {env : Env} {c : jw} (hap : c.Yj.all (fun x => kF P x.1) = true) (hf : ∀ x ∈ c.fns, eV P env x.1 x.2) (hl : ∀ x ∈ c.Yj, eg P env x.1 x.2.1 x.2.2) (w0 : Anchor) : eJ P env w0 (c.x.cR P) := by
 refine ⟨fun f args nx p h r h' nx' hx hr => ?_, fun code fr nx p h ex fr' h' nx' hx hr => ?_⟩
 ·obtain ⟨x, hm, rfl, hp⟩ := Cf hx; exact hf x hm w0 args nx p h r h' nx' hp hr
 ·obtain ⟨f, fn, body, k, _, h1, h2, h3, h4⟩ := hx; obtain ⟨x, hm, rfl, rfl, hp⟩ := CB h4; rw [EI (List.all_eq_true.1 hap x hm) h1 h2 h3]; exact hl x hm w0 fr nx p h ex fr' h' nx' hp hr
namespace aj
theorem vq {D : aj} {env e : Env} {l : List (Nat × Nat)} {θ : List (Nat × E)} {nx : Nat} (hn : cY env e (qZ θ) D.cx) {tl : List (Nat × Nat)} {Hx : Head} : ∀ {us : List (Nat × Option Nat)} {es : List Ob}, D.FW l θ nx tl Hx us = some es -> cL env es ->
    ∀ n o, (n, o) ∈ us.map (fun x => (x.1, D.TZ l θ nx Hx x.2)) -> o = .gone \/ (o.owner = true /\ ∃ oE, bZ Hx.h (sig tl Hx.m n) = some oE /\ oE.owner = true /\ aA.aV e env (sig tl Hx.m) oE o) \/ ∃ T ks x, o = .ar T ks x /\ n = dI T /\ ∃ x1, bZ Hx.h n = some (.ar T ks x1) /\ (x1.den e).T = (x.den env).T
 | [], es, _, _, n, o, h => by cases h
 | (n0, none) :: r, es, hc, ht, n, o, hm => by
   simp only [FW] at hc; simp only [List.map_cons] at hm; rcases List.mem_cons.1 hm with e1 | hm
   ·injection e1 with e1 e2; exact .inl e2
   ·exact vq hn hc ht n o hm
 | (n0, some k) :: r, es, hc, ht, n, o, hm => by
   simp only [FW] at hc; split at hc
   ·rename_i T ks x hg; cases hb : (Nat.beq n0 k && Nat.beq n0 (dI T)) with
    | false => rw [hb] at hc; cases hc
    | true =>
      rw [hb] at hc; simp only [cond_true] at hc; simp only [Bool.and_eq_true, Nat.beq_eq] at hb; simp only [List.map_cons] at hm; rcases List.mem_cons.1 hm with e1 | hm
      ·injection e1 with e1 e2; subst e1
       have e3 : o = (aA.ar T ks x).pZ (D.xg l nx) (qZ θ) := by
        rw [e2]; show (match bZ Hx.h k with | some o => o.pZ (D.xg l nx) (qZ θ) | none => .gone) = _
        rw [hg]
       refine .inr (.inr ⟨T, ks, x.aR (qZ θ), e3, hb.2, x, by rw [hb.1]; exact hg, ?_⟩)
       rw [E.aO hn]
      ·exact vq hn hc ht n o hm
   ·rename_i oE hna hg; cases hb : Nat.beq (sig tl Hx.m n0) k with
    | false => rw [hb] at hc; cases hc
    | true =>
      rw [hb] at hc; simp only [cond_true] at hc; obtain ⟨l1, l2, h1, h2, rfl⟩ := fV hc; obtain ⟨t1, t2⟩ := aM.1 ht; simp only [List.map_cons] at hm; rcases List.mem_cons.1 hm with e1 | hm
      ·injection e1 with e1 e2; subst e1; obtain ⟨g1, g2, g3⟩ := aA.pL hn h1 t1
       have e3 : o = oE.pZ (D.xg l nx) (qZ θ) := by
        rw [e2]; show (match bZ Hx.h k with | some o => o.pZ (D.xg l nx) (qZ θ) | none => .gone) = _
        rw [hg]
       rw [e3]; exact .inr (.inl ⟨g3, oE, by rw [Nat.eq_of_beq_eq_true hb]; exact hg, g2, g1⟩)
      ·exact vq hn h2 t2 n o hm
   ·cases hc
theorem CW {env e : Env} {pr : Nat -> E} {cx : Nat -> Bool} {σ τ : Nat -> Nat} (hn : cY env e pr cx) {sl : List SV} : ∀ {ov : List (Nat × SV)}, (∀ x ∈ ov, nth sl x.1 = some x.2 /\ x.2.mL σ τ cx = true) -> nK e env σ sl (ov.map fun x => (x.1, x.2.pZ τ pr))
 | [], _ => trivial
 | (j, y) :: r, h => by
   obtain ⟨h1, h2⟩ := h _ (List.mem_cons_self ..); refine ⟨?_, CW hn fun x hx => h x (List.mem_cons_of_mem _ hx)⟩; simp only at h1; rw [h1]; exact SV.pL hn h2
theorem rj : ∀ {l : List (Nat × SV)} {j : Nat} {x : SV}, allDiff (l.map (·.1)) = true -> (j, x) ∈ l -> b9 l j = some x
 | [], _, _, _, h => by cases h
 | (i, y) :: r, j, x, hd, h => by
   simp only [List.map_cons, allDiff, Bool.and_eq_true, Bool.not_eq_true'] at hd; unfold b9; rcases List.mem_cons.1 h with e | h
   ·injection e with e1 e2; subst e1; subst e2; simp
   ·have : Nat.beq i j = false := by
      rw [Bool.eq_false_iff]; intro he; obtain rfl := Nat.eq_of_beq_eq_true he; rw [cQ.2 (List.mem_map.2 ⟨(i, x), h, rfl⟩ : i ∈ r.map (·.1))] at hd; exact absurd hd.1 (by simp)
    rw [this]; exact rj hd.2 h
theorem yV {g : SV -> SV} : ∀ {l : List (Nat × SV)} {j : Nat}, b9 (l.map fun x => (x.1, g x.2)) j = none -> b9 l j = none
 | [], _, _ => rfl
 | (i, x) :: r, j, h => by
   simp only [List.map_cons, b9] at h ⊢; cases hb : Nat.beq i j with
   | true => rw [hb] at h; cases h
   | false => rw [hb] at h; exact yV h
structure Ww (P : Program) (D : aj) (env : Env) (μ0 : Nat) where
 n : Nat
 mode : (Nat -> Value) -> Nat -> Nat -> Prop
 L : Nat -> List (aa × List Ob)
 hX : ∀ i u A, i <= n -> eJ P (D.env env u i) A (D.X.cR P)
 n5 : ∀ u i μ, mode u i μ -> D.jC P μ = some (L μ)
 cJ : ∀ i μ u, mode u i μ -> i <= n -> ∀ x ∈ L μ, x.1.aB (D.env env u i) -> cL (D.env env u i) x.2
 As : ∀ i μ u, mode u i μ -> i <= n -> (D.hd μ).fs.aB (D.env env u i)
 cW : ∀ i u, i <= n -> (D.lt.den (D.env env u i)).B = true -> i < n
 zL : ∀ u i μ μ', mode u i μ -> D.ml μ' = true -> (D.mf μ').aB (D.env env u (i + 1)) -> i + 1 <= n -> ∃ μ2, mode u (i + 1) μ2 /\ gz (D.hd μ2) (D.hd μ')
 tJ : ∀ u, (D.mf μ0).aB (D.env env u 0) -> ∃ μ2, mode u 0 μ2 /\ gz (D.hd μ2) (D.hd μ0)
structure jI (D : aj) (env e' : Env) : Prop where
 v : ∀ n, n ∉ D.params -> n ≠ D.r -> e'.v n = env.v n
 r : e'.v D.r = .i 0
 fn : e'.fn = env.fn
 val : e'.val = env.val
 mp : e'.mp = env.mp
 uf : e'.uf = env.uf
def acD (P : Program) (D : aj) (e : Env) (u : Nat -> Value) (μ2 : Nat) : Prop := ∀ (A : Anchor) (ρ0 : af) (a : Act) (w : World) (Q : Exit -> Act -> World -> Prop),
 Sat (D.env e u 0) A ρ0 ⟨et (D.full (D.hd μ2)).ov u 0 D.N, D.iN⟩ (bg (D.hd μ2).h) (D.hd μ2).m a w ->
 (∀ ν ρ (a' : Act) w', (∃ xs, ez D.bz ν = some xs /\ cL (D.env e u 0) xs) -> ((∀ k ∈ D.fixed, ∀ p, ρ0 k = some p -> ρ k = some p) /\ Fz.le ρ0.fz ρ.fz) ->
  Sat (D.env e u 0) A ρ ⟨et (D.full (D.hx ν)).ov (fun _ => .nilIface) 0 D.N, D.iN⟩ (bg (D.hx ν).h) (D.hx ν).m a' w' -> Q (D.oN ν).den a' w') ->
 (Code.loop (fR P D.f D.key)).wp P Q a w
theorem GY {P : Program} {D : aj} {env : Env}
    (hR : ∀ e', jI D env e' -> ∀ μ0, D.nT μ0 = true -> (D.aV μ0).aB e' -> ∀ u, (D.mf μ0).aB (D.env e' u 0) -> ∃ μ2, gz (D.hd μ2) (D.hd μ0) /\ acD P D e' u μ2) (hxobj : ∀ ν, ((D.hx ν).h.all fun x => bS x.2) = true) : eg P env D.f D.key D.dB := by
 intro w0 fr nx p h ex fr' h' nx' hp hr; unfold dB at hp; cases hc : ((rU fr.df D.PR && Nat.ble (GB D.PR) 100) && Nat.beq fr.sl.length D.N && Nat.ble D.N 900) with
 | false => rw [hc] at hp; cases hp
 | true =>
   rw [hc] at hp; simp only [Bool.and_eq_true, Nat.beq_eq] at hc; obtain ⟨⟨hdf, hN⟩, hN1⟩ := hc; have hN1 := Nat.le_of_ble_eq_true hN1; cases happ : D.app fr.sl with
   | false => rw [happ] at hp; cases hp
   | true =>
     rw [happ] at hp; simp only [cond_true, Option.some.injEq] at hp; subst hp; simp only [run_bind, aq, ae, gB] at hr; obtain ⟨μ0, _, hmd, _, _, ⟨hok0, rfl⟩, sl0, h0, hfr, l, _, ha, sl, h1, hfh, _, _, ⟨hchk, rfl⟩, θ1, _, hθ1, θ0, _, hθ, _, _, ⟨hθ2, rfl⟩, es, _, ⟨hes, rfl⟩, _, _, ⟨htf, rfl⟩, _, _, ⟨htes, rfl⟩, _, hx, hE, ν, hy, hdec, hout⟩ := hr; obtain rfl := D.ack _ hmd; obtain rfl := E4 ha; have hsll := (wm hfh).trans (wN hfr)
     have hfr0 : ∀ {A : Anchor} {ρ : af} {a : Act} {w : World}, Sat env A ρ fr h nx a w -> ∃ ρ', ρ.le ρ' /\ Sat env A ρ' ⟨sl, fr.df⟩ h1 nx a w := fun hs => by
      obtain ⟨ρ1, l1, s1⟩ := y4 hfr (hs); obtain ⟨ρ2, l2, s2⟩ := yS hfh s1; exact ⟨ρ2, af.le_trans l1 l2, s2⟩
     have hN' : sl.length = D.N := hsll.trans hN; clear hfr hfh; obtain rfl := JG hθ1; obtain rfl := yN hθ; have hpθ : ∀ p ∈ θ0.map (·.1), p ∈ D.params := fun p hp => cQ.1 (List.all_eq_true.1 hθ2 p hp); generalize hθd : (D.r, E.il 0) :: θ0 = θ at *; have hrθ : qZ θ D.r = .il 0 := by rw [<- hθd]; unfold qZ; rw [Nat.beq_refl]; rfl
     have hlike : jI D env (jL env θ) := ⟨fun n hn hr => by
      show (qZ θ n).den env = env.v n; rw [<- hθd, FU fun hm => ?_]
      ·rfl
      ·simp only [List.map_cons, List.mem_cons] at hm; rcases hm with h | h
       ·exact hr h
       ·exact hn (hpθ n h), by show (qZ θ D.r).den env = .i 0; rw [hrθ]; rfl, rfl, rfl, rfl, rfl⟩
     have htf := j9 htf; have hent : (D.aV μ0 ++ D.mf μ0).aB (jL env θ) := j8 (M5 env θ) htf; have tJ := hR _ hlike μ0 hok0 (uR.1 hent).1; simp only [Bool.and_eq_true] at hchk; obtain ⟨⟨⟨hinj, hltl⟩, hfix⟩, hobj⟩ := hchk; have hnE0 := D.Si (e := env) (θ := θ) hrθ fun _ => .nilIface; obtain ⟨rfl, _⟩ : h1 = hx /\ True := ⟨(s8 (S := ((D.hd μ0).h.map fun x => mb (sig l nx) x.2 x.1)) hnE0 hE fun x hx _ => List.mem_map.2 ⟨x, hx, rfl⟩).1, trivial⟩; obtain rfl := td hdec; simp only [RM, run_bind, aq, ae, gB, wA, run_pure] at hout; obtain ⟨_, _, ⟨hok, rfl⟩, es2, _, ⟨he2, rfl⟩, _, _, ⟨hto, rfl⟩, _, _, rfl, e1, rfl⟩ := hout; injection e1 with e1 e2; injection e2 with e2 e3; subst e1; subst e2; subst e3; refine ⟨Nat.le_add_right .., fun ρ0 a w Q hs0 hQ0 => ?_⟩; obtain ⟨ρ, hle0, hs⟩ := hfr0 hs0; have hQ : ∀ ρ' (a' : Act) w', ρ.le ρ' -> Sat env w0 ρ' _ _ _ a' w' -> Q (D.oN ν).den a' w' := fun ρ' a' w' hle hs' => hQ0 ρ' a' w' (af.le_trans hle0 hle) hs'; have hal : a.tmps.toList.length = D.N := by rw [hs.sl.length]; exact hN'
     let u : Nat -> Value := fun j => if j < 900 then (a.tmps.toList[j]?).getD undef else ((ig a.defers)[j - 900]?).getD undef
     have hvu : ∀ i j, j < D.N -> (D.env (jL env θ) u i).val (D.base + j) 0 = (a.tmps.toList[j]?).getD undef := by
      intro i j hj; show (if D.base <= D.base + j /\ D.base + j < D.base + 1000 then u (D.base + j - D.base) else env.val _ _) = _
      rw [if_pos ⟨by omega, by omega⟩, Nat.add_sub_cancel_left]
      show (if j < 900 then _ else _) = _
      rw [if_pos (by omega)]
     have hnE := D.Si (e := env) (θ := θ) hrθ u
     let Sa := ((D.hd μ0).h.filter fun x => x.2.mR).map (·.1)
     let So := ((D.hd μ0).h.filter fun x => x.2.owner).map fun x => sig l nx x.1
     obtain ⟨_, hhp, hpl⟩ := s8 (S := Sa ++ So) hnE hE fun x hx ho => by
      rcases ho with ho | ho
      ·rw [kh _ ho]; exact List.mem_append_right _ (List.mem_map.2 ⟨x, List.mem_filter.2 ⟨hx, ho⟩, rfl⟩)
      ·unfold mb; rw [ho]; exact List.mem_append_left _ (List.mem_map.2 ⟨x, List.mem_filter.2 ⟨hx, ho⟩, rfl⟩)
     have hdv : ∀ i (j : Nat) (v : Value), (ig a.defers)[j]? = some v -> (D.env (jL env θ) u i).val (D.base + 900 + j) 0 = v := by
      intro i j v hj; have hlen := wW hdf.1 hs.df; have hj2 := (List.getElem?_eq_some_iff.1 hj).1; have hd2 := Nat.le_of_ble_eq_true hdf.2; show (if D.base <= D.base + 900 + j /\ D.base + 900 + j < D.base + 1000 then u (D.base + 900 + j - D.base) else env.val _ _) = _
      rw [if_pos ⟨by omega, by omega⟩, show D.base + 900 + j - D.base = 900 + j by omega]
      show (if 900 + j < 900 then _ else _) = _
      rw [if_neg (by omega), Nat.add_sub_cancel_left, hj]
      rfl
     have hin := Dp (vB := D.base) (js := D.js) hs (tE hnE hes htes) hhp hobj hinj (fun x hx => by
      have := List.all_eq_true.1 hltl x hx; unfold Nat.blt at this
      exact Nat.le_of_ble_eq_true this) (fun ρ' => Ic hdf.1 hs.df (hdv 0)) hN' (hvu 0)
     obtain ⟨μ2, hsame, hruns⟩ := tJ u (j8 hnE fun e b hm => htf e b (by
      obtain ⟨x, hx, hx2⟩ := List.mem_map.1 hm
      exact List.mem_map.2 ⟨x, List.mem_append_right _ hx, hx2⟩))
     have hin2 : Sat (D.env (jL env θ) u 0) (cF w ρ (eA ρ h1 (Sa ++ So))) (ρ.re (sig l nx)) ⟨et (D.full (D.hd μ2)).ov u 0 D.N, D.iN⟩ (bg (D.hd μ2).h) (D.hd μ2).m a w := by
      have hq1 := (hsame.full D.base D.N D.js).ov; unfold aj.full; rw [hq1, hsame.h, hsame.m]; have e9 : et (lq D.base D.N D.js (D.hd μ0)).ov u 0 D.N = et (lq D.base D.N D.js (D.hd μ0)).ov (fun j => (a.tmps.toList[j]?).getD undef) 0 D.N := gD _ _; rw [e9]; exact hin
     refine hruns _ _ _ _ _ hin2 ?_; intro ν' ρE a' w' ⟨xs, hxs, htx⟩ hfixE hsE; obtain rfl := BB hnE hdec hxs htx; unfold Ts at hok; simp only [Bool.and_eq_true] at hok; obtain ⟨⟨⟨⟨⟨⟨hxo, hdiff⟩, hxall⟩, hmax⟩, hup⟩, hain⟩, hov⟩ := hok; have hmax := Nat.le_of_ble_eq_true hmax
     have hkeys : ∀ m, m ∈ (D.xO l θ nx Sa So (D.hx ν)).map (·.1) ↔ m ∈ Sa ++ So \/ m ∈ D.G6 (D.hx ν) nx := fun m => by
      unfold xO KE G6; simp only [List.map_map, List.map_append, List.mem_append, Function.comp_def, or_assoc, List.map_id']
     have hnewlt : ∀ m ∈ D.G6 (D.hx ν) nx, nx <= m /\ m < nx + (D.hx ν).m := fun m hm => by
      obtain ⟨y, hy, rfl⟩ := List.mem_map.1 hm; obtain ⟨hy1, hy2⟩ := List.mem_filter.1 hy
      have hna : zA y = true := by
       unfold HH at hy2; rw [Bool.and_eq_true] at hy2; unfold zA; rw [kT hy2.1]; rfl
      have := List.all_eq_true.1 hxall y (List.mem_filter.2 ⟨hy1, hna⟩); rw [Bool.and_eq_true] at this; have h1 := this.1; unfold Nat.blt at h1; have := Nat.le_of_ble_eq_true h1; omega
     have hupAt : ∀ T, dI T ∈ Sa -> ∃ ks' x', ay (gR (D.xO l θ nx Sa So (D.hx ν)) h1) (dI T) = some (.ar T ks' x') := fun T hT => by
      obtain ⟨o, g1, g2⟩ := y9 (h := h1) ((hkeys (dI T)).2 (.inl (List.mem_append_left _ hT))); obtain ⟨ks', x', rfl⟩ := M3 hup hT g1; exact ⟨ks', x', g2⟩
     have hxall := List.all_eq_true.1 hxall; unfold aeV at hov; rw [Bool.and_eq_true] at hov; obtain ⟨hov1, hov2⟩ := hov
     obtain ⟨hle, hso⟩ := zX (vB := D.base) (e := D.env (jL env θ) u 0) (js := D.js) (nx' := nx + (D.hx ν).m) (news := D.G6 (D.hx ν) nx) hs hsE (tl := D.tlL l nx (D.hx ν)) (upds := D.xO l θ nx Sa So (D.hx ν)) (outs := D.SA l θ nx (D.hx ν))
      hkeys hnewlt (Nat.le_add_right ..)
      (vq hnE he2 hto) hfixE.2
      (fun T ks x hx => by
       have := List.all_eq_true.1 hain _ (C6 hx); have hT : dI T ∈ Sa := cQ.1 this
       exact ⟨List.mem_append_left _ hT, hupAt T hT⟩)
      (fun T ks x hx => by
       by_cases hk : dI T ∈ (D.xO l θ nx Sa So (D.hx ν)).map (·.1)
       ·rcases (hkeys _).1 hk with hk | hk
        ·rcases List.mem_append.1 hk with hk | hk
         ·exact hupAt T hk
         ·exfalso; obtain ⟨y, hy, he⟩ := List.mem_map.1 hk; obtain ⟨hy1, hy2⟩ := List.mem_filter.1 hy; obtain ⟨o, ho, hpo⟩ := hpl y hy1 (kT hy2); rw [he, hx] at ho; injection ho with ho; rw [<- ho] at hpo; cases hpo
        ·exfalso; have := (hnewlt _ hk).2; unfold dI at this; omega
       ·exact ⟨ks, x, by rw [D5 hk]; exact hx⟩)
      hdiff
      (fun x hx => by
       obtain ⟨y, hy, rfl⟩ := List.mem_map.1 hx; have := hxall y hy; rw [Bool.and_eq_true, Bool.or_eq_true] at this; simp only; cases hf : qm y.1 D.fixed with
       | true =>
         have hk := List.all_eq_true.1 hfix y.1 (cQ.1 hf); obtain ⟨z, hz, hz1⟩ := List.mem_map.1 (cQ.1 hk); obtain ⟨hz, hzn⟩ := List.mem_filter.1 hz; obtain ⟨o, ho, hpo⟩ := hpl z hz (by unfold zA at hzn; simpa using hzn)
         obtain ⟨q, hq⟩ := Ej (hs.hs.bk _ o ho) hpo; refine .inr ?_; unfold xg; rw [hf]; rw [hz1] at hq; rw [show (bif true then sig l nx y.1 else nx + y.1) = sig l nx y.1 from rfl, hq]; exact (hfixE.1 y.1 (cQ.1 hf) q hq).symm
       | false =>
         rw [hf] at this; rcases this.2 with h | h
         ·cases h
         ·refine .inl (List.mem_map.2 ⟨y, List.mem_filter.2 ⟨(List.mem_filter.1 hy).1, ?_⟩, ?_⟩)
          ·unfold HH; rw [h, hf]; rfl
          ·unfold xg; rw [hf]; rfl)
      (CW hnE fun x hx => by
       have := List.all_eq_true.1 hov1 x hx; rw [Bool.and_eq_true] at this; have h1 := this.1; unfold Nat.blt at h1; have h1 : x.1 < D.N := Nat.le_of_ble_eq_true h1; refine ⟨?_, this.2⟩; rw [s4, kW D.N 0 x.1 h1, Nat.zero_add]; unfold lq jF; simp only
       rw [dm, rj hov2 hx]) (fun ρ' ds hle hd => Ee hle hdf.1 hs.df (hdv 0) hd) hN' (hvu 0) (fun j hj hno => yV hno)
     exact hQ _ a' w' hle hso
theorem ED {P : Program} (hP : Plain P) (hM : P.follows .mixedOrders = true) {D : aj} (hbody : ((P.funcs[D.f]?).bind (·.body)).isSome = true) {env : Env}
    (hR : ∀ e', jI D env e' -> ∀ μ0, D.nT μ0 = true -> (D.aV μ0).aB e' -> Nonempty (Ww P D e' μ0)) (hxobj : ∀ ν, ((D.hx ν).h.all fun x => bS x.2) = true) : eg P env D.f D.key D.dB := by
 refine GY (fun e' he μ0 h0 hent u hmf => ?_) hxobj; obtain ⟨n, mode, L, hX, n5, cJ, As, cW, zL, tJ⟩ := hR _ he μ0 h0 hent; obtain ⟨μ2, hm2, hsame⟩ := tJ u hmf; exact ⟨μ2, hsame, fun A ρ0 a w Q hs hexit => aj.comp hP hM hbody (n := n) (u := u) (L := L) (mode := mode u) (fun i hi => hX i u _ hi) (n5 u) (fun i μ hm hi => cJ i μ u hm hi) (fun i μ hm hi => As i μ u hm hi) (fun i hi => cW i u hi) (zL u) hxobj hm2 hs hexit⟩
end aj
def Wc (c : Code) : Option (Nat × Nat × Nat × Code) :=
 match c with
 | .seq (.region _ ops dr) r =>
   match ops.toList with
   | [o1, o2] =>
     match o1.op, o2.op, o1.dst, o2.dst, o1.guard, o2.guard with
     | .next (.tmp it) false, .extract (.tmp d) 0, some d1, some d2, none, none => cond (Nat.beq d d1 && !dr) (some (it, d1, d2, r)) none
     | _, _, _, _, _, _ => none
   | _ => none
 | _ => none
theorem Cj {P : Program} {c r : Code} {it d1 d2 : Nat} (hc : Wc c = some (it, d1, d2, r)) {a : Act} {w w1 : World} {Q : Exit -> Act -> World -> Prop} {b : Bool} {vs : List Value}
    (h1 : d1 < a.tmps.size) (hrun : ∀ ty, (Instr.next (a.eval (.tmp it)) false ty).run P w = .ok (.tuple (Value.bool b :: vs).toArray) w1)
    (hr : r.wp P Q ((a.put (some d1) (.tuple (Value.bool b :: vs).toArray)).put (some d2) (.bool b)) w1) : c.wp P Q a w := by
 unfold Wc at hc; split at hc
 ·rename_i rid ops dr r'; split at hc
  ·rename_i o1 o2 hops; split at hc
   ·rename_i it' d e1 e2 g1 g2 g3 g4 g5 g6; cases hb : (Nat.beq d e1 && !dr) with
    | false => rw [hb] at hc; cases hc
    | true =>
      rw [hb] at hc; simp only [cond_true, Option.some.injEq, Prod.mk.injEq] at hc; obtain ⟨rfl, rfl, rfl, rfl⟩ := hc; simp only [Bool.and_eq_true, Nat.beq_eq, Bool.not_eq_true'] at hb; obtain ⟨rfl, rfl⟩ := hb; obtain rfl : ops = #[o1, o2] := by rw [<- Array.toList_inj]; exact hops
      refine wp_seq (wp_region ?_); show wpOps P _ _ [0, 1] a w; have k1 : ∀ y, Region.wanted o1 y = true := fun y => by unfold Region.wanted; rw [g5]
      have k2 : ∀ y, Region.wanted o2 y = true := fun y => by unfold Region.wanted; rw [g6]
      unfold wpOps; simp only [List.getElem?_toArray, List.getElem?_cons_zero, k1, if_true]
      left
      unfold Oper.wp; simp only [execOp, g1, Sem.run_bind, hrun, Result.andThen_ok, Sem.run_pure]; rw [Oper.upon_value, g3]; unfold wpOps; simp only [List.getElem?_toArray, List.getElem?_cons_succ, List.getElem?_cons_zero, k2, if_true]
      left
      unfold Oper.wp
      have hev : (a.put (some d) (.tuple (Value.bool b :: vs).toArray)).eval (.tmp d) = .tuple (Value.bool b :: vs).toArray := by
       simp [Act.eval, Act.put, Array.getD_eq_getD_getElem?, Array.getElem?_setIfInBounds, h1]
      simp only [execOp, g2, hev, Instr.extract, List.getElem?_toArray, List.getElem?_cons_zero, Sem.run_bind, Result.andThen_ok, Sem.run_pure]; rw [Oper.upon_value, g4]; exact hr
   ·cases hc
  ·cases hc
 ·cases hc
theorem cZ.fw {kk : KK} {ag : Bool} {ks : aJ} {fz : Fz} : ∀ {es : List MapEntry} {l : List (List Dv)}, cZ kk ag ks fz es l -> ∀ e ∈ es, ∃ r ∈ l, DQ kk ag ks fz e r
 | _, _, .nil, e, h => by cases h
 | _, _, .cons a t, e, h => by
   rcases List.mem_cons.1 h with rfl | h
   ·exact ⟨_, List.mem_cons_self .., a⟩
   ·obtain ⟨r, h1, h2⟩ := cZ.fw t e h; exact ⟨r, List.mem_cons_of_mem _ h1, h2⟩
theorem cZ.bw {kk : KK} {ag : Bool} {ks : aJ} {fz : Fz} : ∀ {es : List MapEntry} {l : List (List Dv)}, cZ kk ag ks fz es l -> ∀ r ∈ l, ∃ e ∈ es, DQ kk ag ks fz e r
 | _, _, .nil, e, h => by cases h
 | _, _, .cons a t, e, h => by
   rcases List.mem_cons.1 h with rfl | h
   ·exact ⟨_, List.mem_cons_self .., a⟩
   ·obtain ⟨r, h1, h2⟩ := cZ.bw t e h; exact ⟨r, List.mem_cons_of_mem _ h1, h2⟩
theorem b7.bw {kk : KK} {kb : List (Value × Nat)} : ∀ {l : List (List Dv)} {s : List Nat}, b7 kk kb l s -> ∀ b ∈ s, ∃ r ∈ l, (kk.dv (r.headD (.i 0)), b) ∈ kb
 | _, _, .nil, b, h => by cases h
 | _, _, .cons a t, b, h => by
   rcases List.mem_cons.1 h with rfl | h
   ·exact ⟨_, List.mem_cons_self .., a⟩
   ·obtain ⟨r, h1, h2⟩ := b7.bw t b h; exact ⟨r, List.mem_cons_of_mem _ h1, h2⟩
theorem b7.fw {kk : KK} {kb : List (Value × Nat)} : ∀ {l : List (List Dv)} {s : List Nat}, b7 kk kb l s -> ∀ r ∈ l, ∃ b ∈ s, (kk.dv (r.headD (.i 0)), b) ∈ kb
 | _, _, .nil, b, h => by cases h
 | _, _, .cons a t, b, h => by
   rcases List.mem_cons.1 h with rfl | h
   ·exact ⟨_, List.mem_cons_self .., a⟩
   ·obtain ⟨r, h1, h2⟩ := b7.fw t b h; exact ⟨r, List.mem_cons_of_mem _ h1, h2⟩
theorem K5 {α β : Type} {f : α -> β} : ∀ {l : List α}, (l.Pairwise fun a b => f a ≠ f b) -> ∀ {x y : α}, x ∈ l -> y ∈ l -> f x = f y -> x = y := by
 intro l hp
 induction hp with
 | nil => intro x y hx; cases hx
 | cons h _ ih =>
   intro x y hx hy he; rcases List.mem_cons.1 hx with ex | hx1
   ·rcases List.mem_cons.1 hy with ey | hy1
    ·rw [ex, ey]
    ·exact absurd he (by rw [ex]; exact h _ hy1)
   ·rcases List.mem_cons.1 hy with ey | hy1
    ·exact absurd he.symm (by rw [ey]; exact h _ hx1)
    ·exact ih hx1 hy1 he
theorem b7.inj {kk : KK} {kb : List (Value × Nat)} (hk : kb.Pairwise fun a b => a.1 ≠ b.1) : ∀ {l : List (List Dv)} {s t : List Nat}, b7 kk kb l s -> b7 kk kb l t -> s = t
 | _, _, _, .nil, .nil => rfl
 | _, _, _, .cons a t, .cons b u => by
   have := K5 hk a b rfl; injection this with _ h; rw [h, b7.inj hk t u]
section
variable {P : Program} {env : Env} {A : Anchor} {ρ : af} {h : aL} {w : World}
theorem az.next (H : az env A ρ h w) {kI m : Nat} {kk : KK} {V e : E} {ag : Bool} {ks : aJ} {p : Pl} {s : Nat} {kb : List (Value × Nat)}
    (hI : ay h kI = some (.pf m kk V)) (hM : ay h m = some (.k7 kk ag ks e (some kI))) (hp : ρ kI = some p) (hg : p.gh = some (s, kb)) :
    (kb.Pairwise fun a b => a.1 ≠ b.1) /\ (kb.Pairwise fun a b => a.2 ≠ b.2) /\ ∃ seen : List Nat, b7 kk kb (V.den env).T seen /\
    (((∀ ty, (Instr.next (.pointer (some ⟨p.block, p.base + 0, none⟩)) false ty).run P w = .ok (.tuple (Value.bool false :: []).toArray) w) /\
      ∀ row ∈ (e.den env).T, ∃ r2 ∈ (V.den env).T, kk.dv (r2.headD (.i 0)) = kk.dv (row.headD (.i 0))) \/
    ∃ row ∈ (e.den env).T, ∃ b v w1, (∀ ty, (Instr.next (.pointer (some ⟨p.block, p.base + 0, none⟩)) false ty).run P w = .ok (.tuple (Value.bool true :: [kk.dv (row.headD (.i 0)), v]).toArray) w1) /\
     (kk.dv (row.headD (.i 0)), b) ∈ kb /\ b ∉ seen /\ (∀ r2 ∈ (V.den env).T, kk.dv (r2.headD (.i 0)) ≠ kk.dv (row.headD (.i 0))) /\
     ∀ env' V', (V'.den env').T = (V.den env).T ++ [[row.headD (.i 0)]] -> az env' A ρ h w -> az env' A ρ (bf h kI (.pf m kk V')) w1) := by
 obtain ⟨p', q, s', kb', seen, i1, i2, i3, i4, i5, i6, i7, i8⟩ := H.bk kI _ hI; rw [hp] at i1; injection i1 with i1; subst i1; rw [hg] at i6; injection i6 with i6; injection i6 with i6 i6'; subst i6; subst i6'; obtain ⟨q', es, clk, h1, h2, h3, h4, h5, h6, h7, h8⟩ := H.bk m _ hM; rw [i5] at h1; injection h1 with h1; subst h1; obtain ⟨p'', s', kb', j1, j2, rfl, R⟩ := h8 kI rfl; rw [hp] at j1; injection j1 with j1; subst j1; rw [hg] at j2; injection j2 with j2; injection j2 with j2 j3; subst j2; subst j3; refine ⟨R.keys, R.born, seen.toList, i8, ?_⟩; have inkb : ∀ en ∈ es.toList, (en.key, en.born) ∈ kb := fun en he => R.sub.subset (List.mem_map.2 ⟨en, he, rfl⟩); have hcon : ∀ b, seen.contains b = true ↔ b ∈ seen.toList := fun b => by simp
 rw [i3]; have key : ∀ ty, _ := fun ty => run_next_at (P := P) w ty p.block q.block s s seen es s i7 h5 (fun x hx => h6.born x hx) (Nat.le_refl _)
 by_cases hz : (leftOf es seen).size = 0
 ·left
  refine ⟨fun ty => ?_, fun row hrow => ?_⟩
  ·rcases key ty with ⟨_, hr⟩ | ⟨en, hen, _⟩
   ·exact hr
   ·exfalso; have : leftOf es seen = #[] := Array.eq_empty_of_size_eq_zero hz; rw [this] at hen; simp at hen
  ·obtain ⟨l7, hp7, h7⟩ := h7; obtain ⟨en, hen, hok⟩ := h7.bw row (hp7.mem_iff.2 hrow)
   have hs : en.born ∈ seen.toList := by
    have h0 : leftOf es seen = #[] := Array.eq_empty_of_size_eq_zero hz; unfold leftOf at h0; rw [Array.filter_eq_empty_iff] at h0; have := h0 en (by simpa using hen)
    exact (hcon _).1 (by simpa using this)
   obtain ⟨r2, g1, g2⟩ := i8.bw _ hs; refine ⟨r2, g1, ?_⟩; have := K5 R.born g2 (inkb en hen) rfl; injection this with this _; rw [this, hok.1]
 ·right
  have hex : ∃ en ∈ (leftOf es seen).toList, ∃ w1 : World, (w1 = w \/ w1 = w.drew) /\ ∀ ty, (Instr.next (.pointer (some ⟨p.block, 0, none⟩)) false ty).run P w = .ok (.tuple #[.bool true, en.key, en.val]) (ChangeMaps.setBlock w1 p.block (.mapIter (some q.block) s (seen.push en.born) s)) := by
   have ty0 : ∀ ty ty', (Instr.next (.pointer (some ⟨p.block, 0, none⟩)) false ty).run P w = (Instr.next (.pointer (some ⟨p.block, 0, none⟩)) false ty').run P w := fun _ _ => rfl
   rcases key 0 with ⟨h0, _⟩ | ⟨en, hen, w1, hw, hr⟩
   ·exact absurd h0 hz
   ·exact ⟨en, hen, w1, hw, fun ty => (ty0 ty 0).trans hr⟩
  obtain ⟨en, hen, w1, hw, hr⟩ := hex
  have hen2 : en ∈ es.toList /\ en.born ∉ seen.toList := by
   unfold leftOf at hen; simp at hen; exact ⟨by simpa using hen.1, by simpa using hen.2⟩
  obtain ⟨l7, hp7, h7⟩ := h7; obtain ⟨row, hrow, hok⟩ := h7.fw en hen2.1; have hrow := hp7.mem_iff.1 hrow; have hkey := hok.1; refine ⟨row, hrow, en.born, en.val, _, fun ty => by rw [<- hkey]; exact hr ty, by rw [<- hkey]; exact inkb en hen2.1, hen2.2, fun r2 hr2 he => ?_, fun env' V' hV' H' => ?_⟩
  ·obtain ⟨b2, g1, g2⟩ := i8.fw r2 hr2; rw [he, <- hkey] at g2; have := K5 R.keys g2 (inkb en hen2.1) rfl; injection this with _ this; exact hen2.2 (by rw [<- this]; exact g1)
  ·have H2 : az env' A ρ h w1 := by
     rcases hw with rfl | rfl
     ·exact H'
     ·exact H'.drawn rfl rfl rfl rfl
   have hw1 : w1.heap = w.heap := by rcases hw with rfl | rfl <;> rfl
   have h77 : w1.heap[p.block]? = some (.mapIter (some q.block) s seen s) := by rw [hw1]; exact i7
   refine H2.update (b := .mapIter (some q.block) s (seen.push en.born) s) hI rfl hp rfl ⟨p, q, s, kb, seen.push en.born, hp, i2, i3, i4, i5, hg, bq h77, ?_⟩; rw [hV', Array.toList_push]; exact b7.snoc (by rw [List.headD_cons, <- hkey]; exact inkb en hen2.1) i8
end
def E.dt (n : Nat) : E -> Bool
 | .v m => !(Nat.beq m n)
 | .il _ => true
 | .bl _ => true
 | .sl _ => true
 | .fn _ a => a.dt n
 | .uf _ a => a.dt n
 | .o1 _ a => a.dt n
 | .o2 _ a b => a.dt n && b.dt n
 | .ext s l h => s.dt n && (l.dt n && h.dt n)
def mg.dt (n : Nat) : mg -> Bool
 | .c _ => true
 | .el i _ _ => i.dt n
def FE.dt (n : Nat) : FE -> Bool
 | .l _ => true
 | .TY e => e.dt n
 | .mul a b => a.dt n && b.dt n
mutual
def SV.dt (n : Nat) : SV -> Bool
 | .int _ e => e.dt n
 | .bool e => e.dt n
 | .str e => e.dt n
 | .BZ e => e.dt n
 | .val _ i => i.dt n
 | .ptr _ o => o.dt n
 | .sl _ _ lo len => lo.dt n && len.dt n
 | .cg _ e => e.dt n
 | .gV _ e => e.dt n
 | .dC _ e i _ => e.dt n && i.dt n
 | .pq _ i _ => i.dt n
 | .fn _ a c => SV.noVs n a && SV.noVs n c
 | .eh _ x => SV.dt n x
 | .agg l => SV.noVs n l
 | .fq l => SV.noVs n l
 | _ => true
def SV.noVs (n : Nat) : List SV -> Bool
 | [] => true
 | x :: l => SV.dt n x && SV.noVs n l
end
def ch.dt (n : Nat) : ch -> Bool
 | .tc _ e _ => e.dt n
 | _ => true
def aA.dt (n : Nat) : aA -> Bool
 | .cells _ cs => SV.noVs n cs
 | .row _ _ len cols tail => len.dt n && (cols.all (ch.dt n) && tail.all (SV.noVs n))
 | .qW _ len cols => len.dt n && cols.all (ch.dt n)
 | .map _ ix _ sz known => ix.dt n && (sz.dt n && known.isEmpty)
 | .ar _ _ e => e.dt n
 | .k7 _ _ _ e _ => e.dt n
 | .pf _ _ V => V.dt n
 | .rA _ _ V => V.dt n
 | .chan c => c.dt n
 | .gone => true
 | _ => false
structure CH (n : Nat) (e e' : Env) : Prop where
 v : ∀ m, m ≠ n -> e'.v m = e.v m
 fn : e'.fn = e.fn
 val : e'.val = e.val
 mp : e'.mp = e.mp
 uf : e'.uf = e.uf
section
variable {n : Nat} {e e' : Env} {ρ : af}
theorem E.bE (h : CH n e e') : ∀ {x : E}, x.dt n = true -> x.den e' = x.den e := by
 intro x
 induction x with
 | v m =>
   intro hx; refine h.v m fun em => ?_; subst em; simp [E.dt] at hx
 | fn c a ih => intro hx; simp only [E.den, ih hx, h.fn]
 | uf c a ih => intro hx; simp only [E.den, ih hx, h.uf]
 | o1 o a ih => intro hx; simp only [E.den, ih hx]
 | o2 o a b i1 i2 => intro hx; simp only [E.dt, Bool.and_eq_true] at hx; simp only [E.den, i1 hx.1, i2 hx.2]
 | ext s a b i1 i2 i3 => intro hx; simp only [E.dt, Bool.and_eq_true] at hx; simp only [E.den, i1 hx.1, i2 hx.2.1, i3 hx.2.2]
 | _ => intro _; rfl
theorem mg.bE (h : CH n e e') {x : mg} (hx : x.dt n = true) : x.den e' = x.den e := by
 cases x with
 | c j => rfl
 | el i s j => simp only [mg.den, E.bE h (x := i) hx]
theorem FE.bE (h : CH n e e') : ∀ {x : FE}, x.dt n = true -> x.den e' = x.den e := by
 intro x
 induction x with
 | l b => intro _; rfl
 | TY a => intro hx; simp only [FE.den, E.bE h (x := a) hx]
 | mul a b i1 i2 => intro hx; simp only [FE.dt, Bool.and_eq_true] at hx; simp only [FE.den, i1 hx.1, i2 hx.2]
mutual
theorem SV.pw (h : CH n e e') : ∀ {x : SV}, x.dt n = true -> ∀ v, x.Rel e' ρ v = x.Rel e ρ v
 | .int k a, hx, v => by simp only [SV.Rel, E.bE h (x := a) hx]
 | .bool a, hx, v => by simp only [SV.Rel, E.bE h (x := a) hx]
 | .str a, hx, v => by simp only [SV.Rel, E.bE h (x := a) hx]
 | .BZ a, hx, v => by simp only [SV.Rel, FE.bE h (x := a) hx]
 | .val c i, hx, v => by simp only [SV.Rel, E.bE h (x := i) hx, h.val]
 | .gm, hx, v => by simp only [SV.Rel]
 | .ptr m o, hx, v => by simp only [SV.Rel, mg.bE h (x := o) hx]
 | .mS, hx, v => by simp only [SV.Rel]
 | .cr, hx, v => by simp only [SV.Rel]
 | .sl m s a b, hx, v => by simp only [SV.dt, Bool.and_eq_true] at hx; simp only [SV.Rel, E.bE h hx.1, E.bE h hx.2]
 | .cg ks a, hx, v => by simp only [SV.Rel, E.bE h (x := a) hx]
 | .gV ks a, hx, v => by simp only [SV.Rel, E.bE h (x := a) hx]
 | .dC ks a i j, hx, v => by simp only [SV.dt, Bool.and_eq_true] at hx; simp only [SV.Rel, E.bE h hx.1, E.bE h hx.2]
 | .pq T i j, hx, v => by simp only [SV.Rel, E.bE h (x := i) hx]
 | .cC, hx, v => by simp only [SV.Rel]
 | .map m, hx, v => by simp only [SV.Rel]
 | .chan m, hx, v => by simp only [SV.Rel]
 | .mF, hx, v => by simp only [SV.Rel]
 | .iC, hx, v => by simp only [SV.Rel]
 | .fn f a c, hx, v => by simp only [SV.dt, Bool.and_eq_true] at hx; simp only [SV.Rel, SV.rels_noV h hx.1, SV.rels_noV h hx.2]
 | .dO, hx, v => by simp only [SV.Rel]
 | .eh t x, hx, v => by simp only [SV.dt] at hx; simp only [SV.Rel, SV.pw h hx]
 | .agg l, hx, v => by simp only [SV.dt] at hx; simp only [SV.Rel, SV.rels_noV h hx]
 | .fq l, hx, v => by simp only [SV.dt] at hx; simp only [SV.Rel, SV.rels_noV h hx]
 | .top, hx, v => by simp only [SV.Rel]
 | .B1 u, hx, v => by simp only [SV.Rel]
theorem SV.rels_noV (h : CH n e e') : ∀ {l : List SV}, SV.noVs n l = true -> ∀ vs, SV.aD e' ρ l vs = SV.aD e ρ l vs
 | [], hx, vs => by simp only [SV.aD]
 | x :: l, hx, vs => by simp only [SV.noVs, Bool.and_eq_true] at hx; simp only [SV.aD, SV.pw h hx.1, SV.rels_noV h hx.2]
end
theorem xJ {x : E} (hx : x.dt n = true) (k : DK) : (gG k x).dt n = true := by
 cases k with
 | fp ks => simp only [gG, SV.dt, E.dt, hx, Bool.and_true]
 | eh t k => simp only [gG, SV.dt]; exact xJ hx k
 | _ => first | exact hx | rfl
termination_by structural k
theorem ch.UD {c : ch} (hc : c.dt n = true) (i : Int) : (c.at (.il i)).dt n = true := by
 cases c with
 | tc k a j => exact xJ (x := .o2 (.cell j) a (.il i)) (by simp only [E.dt, Bool.and_true]; exact hc) k
 | _ => rfl
theorem SVs.ud : ∀ {l : List (List SV)}, l.all (SV.noVs n) = true -> SV.noVs n l.flatten = true
 | [], _ => rfl
 | a :: l, h => by
   simp only [List.all_cons, Bool.and_eq_true] at h
   have app : ∀ {x y : List SV}, SV.noVs n x = true -> SV.noVs n y = true -> SV.noVs n (x ++ y) = true := by
    intro x y hx hy
    induction x with
    | nil => exact hy
    | cons b x ih => simp only [SV.noVs, Bool.and_eq_true] at hx; simp only [List.cons_append, SV.noVs, Bool.and_eq_true]; exact ⟨hx.1, ih hx.2⟩
   rw [List.flatten_cons]; exact app h.1 (SVs.ud h.2)
theorem pt (h : CH n e e') {cols : List ch} (hc : cols.all (ch.dt n) = true) {j : Nat} {bY : ch} (hj : cols[j]? = some bY) (i : Int) (v : Value) : (bY.at (.il i)).Rel e' ρ v = (bY.at (.il i)).Rel e ρ v :=
 SV.pw h (ch.UD (List.all_eq_true.1 hc _ (List.mem_of_getElem? hj)) i) v
theorem aA.pw (h : CH n e e') {A : Anchor} {k : Nat} {o : aA} {w : World} (ho : o.dt n = true) (r : o.Rel e A ρ k w) : o.Rel e' A ρ k w := by
 cases o with
 | cells T cs =>
   obtain ⟨p, vs, h1, h2, h3, h4, h5, h6⟩ := r; exact ⟨p, vs, h1, h2, h3, h4, by rw [SV.rels_noV h ho]; exact h5, h6⟩
 | row T sz len cols tail =>
   simp only [aA.dt, Bool.and_eq_true] at ho; obtain ⟨p, vs, rest, h1, h2, h3, h4, ⟨base, tl, b1, b2, b3, b4, b5, b6⟩, h6, h7⟩ := r; have hl := E.bE h ho.1
   exact ⟨p, vs, rest, h1, h2, h3, h4, ⟨base, tl, b1, by rw [hl]; exact b2, fun i hi j bY hj => by
    obtain ⟨v, v1, v2⟩ := b3 i (by rw [<- hl]; exact hi) j bY hj
    exact ⟨v, v1, by rw [pt h ho.2.1 hj]; exact v2⟩, by rw [SV.rels_noV h (SVs.ud ho.2.2)]; exact b4, b5, b6⟩, h6, h7⟩
 | qW sz len cols =>
   simp only [aA.dt, Bool.and_eq_true] at ho; obtain ⟨p, h1, h2, h3, h4⟩ := r; have hl := E.bE h ho.1; refine ⟨p, h1, by rw [hl]; exact h2, h3, ?_⟩
   rcases h4 with ⟨ht, h4, h5⟩ | ⟨ht, h4, h6, h5⟩
   ·refine .inl ⟨ht, h4, fun i hi j bY hj => ?_⟩; obtain ⟨v, v1, v2⟩ := h5 i (by rw [<- hl]; exact hi) j bY hj
    exact ⟨v, v1, by rw [pt h ho.2 hj]; exact v2⟩
   ·refine .inr ⟨ht, h4, h6, fun i hi j bY hj => ?_⟩; obtain ⟨v, v1, v2⟩ := h5 i (by rw [<- hl]; exact hi) j bY hj
    exact ⟨v, v1, by rw [pt h ho.2 hj]; exact v2⟩
 | map m ix kk sz known =>
   simp only [aA.dt, Bool.and_eq_true, List.isEmpty_iff] at ho; obtain ⟨o1, o2, rfl⟩ := ho; obtain ⟨p, es, clk, kv, h1, h2, h3, h4, h5, h6, h7, h8, h9⟩ := r; refine ⟨p, es, clk, kv, h1, h2, h3, h4, h5, h6, by rw [E.bE h o2]; exact h7, h8, fun q hq => ?_⟩
   rw [h9 q hq, E.bE h o1]
   congr 1
   unfold res; split
   ·rfl
   ·rw [h.mp]
 | ar T ks x => exact r
 | k7 kk ag ks x it =>
   obtain ⟨p, es, clk, h1, h2, h3, h4, h5, h6, h7, h8⟩ := r; exact ⟨p, es, clk, h1, h2, h3, h4, h5, h6, by rw [E.bE h (x := x) ho]; exact h7, h8⟩
 | pf m kk V =>
   obtain ⟨p, q, s, kb, seen, h1, h2, h3, h4, h5, h6, h7, h8⟩ := r; exact ⟨p, q, s, kb, seen, h1, h2, h3, h4, h5, h6, h7, by rw [E.bE h (x := V) ho]; exact h8⟩
 | rA T ks V =>
   obtain ⟨p, l, cs, h1, h2, h3, h4, h5, h6⟩ := r; exact ⟨p, l, cs, h1, h2, h3, h4, h5, by rw [E.bE h (x := V) ho]; exact h6⟩
 | chan c =>
   obtain ⟨p, room, buf, s, rr, t, h1, h2, h3, h4, h5⟩ := r; exact ⟨p, room, buf, s, rr, t, h1, h2, h3, h4, by rw [E.bE h (x := c) ho]; exact h5⟩
 | gone => trivial
 | _ => cases ho
theorem az.dt (h : CH n e e') {A : Anchor} {c : aQ} {w : World} (hc : c.all (fun x => x.2.dt n) = true) (H : az e A ρ (bg c) w) : az e' A ρ (bg c) w := by
 have mem : ∀ {m : Nat} {o : aA}, ay (bg c) m = some o -> o.dt n = true := by
  intro m o hm
  have : ∀ {c : aQ}, bZ c m = some o -> c.all (fun x => x.2.dt n) = true -> o.dt n = true := by
   intro c
   induction c with
   | nil => intro h; cases h
   | cons y r ih =>
     intro h ha; obtain ⟨k, z⟩ := y; unfold bZ at h; simp only [List.all_cons, Bool.and_eq_true] at ha; cases hb : Nat.beq k m with
     | true => rw [hb] at h; simp only [cond_true, Option.some.injEq] at h; subst h; exact ha.1
     | false => rw [hb] at h; exact ih h ha.2
  exact this hm hc
 refine ⟨H.below, fun m o hm => aA.pw h (mem hm) (H.bk m o hm), H.inj, ?_, H.fz⟩; refine ⟨fun m T ks x hm => ?_, H.ar.own, H.ar.apart, H.ar.inj, H.ar.fz, H.ar.stay⟩; have hx : x.dt n = true := mem hm; rw [E.bE h hx]; exact H.ar.cell m T ks x hm
theorem Sat.dt (h : CH n e e') {A : Anchor} {c : aQ} {fr : Fr} {nx : Nat} {a : Act} {w : World} (hc : c.all (fun x => x.2.dt n) = true) (hf : SV.noVs n fr.sl = true) (hd : ∀ ds, eZ e ρ fr.df ds -> eZ e' ρ fr.df ds) (hs : Sat e A ρ fr (bg c) nx a w) : Sat e' A ρ fr (bg c) nx a w := by
 exact ⟨hs.hs.dt h hc, by rw [SV.rels_noV h hf]; exact hs.sl, hd _ hs.df, hs.nx⟩
end
structure AR where
 it : Nat
 m : Nat
 kI : Nat
 kk : KK
 kv : Nat
theorem IH {c r : Code} {it d1 d2 : Nat} (h : Wc c = some (it, d1, d2, r)) : bK r = bK c := by
 unfold Wc at h; split at h
 ·rename_i rid ops dr r'; split at h
  ·rename_i o1 o2 hops; split at h
   ·rename_i it' d e1 e2 g1 g2 g3 g4 g5 g6; cases hb : (Nat.beq d e1 && !dr) with
    | false => rw [hb] at h; cases h
    | true =>
      rw [hb] at h; simp only [cond_true, Option.some.injEq, Prod.mk.injEq] at h; obtain ⟨_, _, _, rfl⟩ := h; simp [bK]
   ·cases h
  ·cases h
 ·cases h
namespace aj
def di (vis : List Dv) : Dv :=
 match vis with
 | [] => .i 0
 | l => .t (l.map fun k => [k])
theorem AW (vis : List Dv) : (di vis).T = vis.map fun k => [k] := by cases vis <;> rfl
theorem IZ (vis : List Dv) (k : Dv) : di (vis ++ [k]) = .t ((di vis).T ++ [[k]]) := by
 rw [AW]; cases vis with
 | nil => rfl
 | cons a l => simp [di]
section
variable (D : aj) (R : AR)
def dh (e : Env) (u : Nat -> Value) (x y : Dv) : Env := { D.env e u 0 with v := fun n => if n = D.r then x else if n = R.kv then y else e.v n }
def zc : E := .o2 .fj (.v D.r) (.o2 .bT (.v R.kv) (.il 0))
def Zf (n : Nat) : E := cond (Nat.beq n D.r) (D.zc R) (.v n)
variable {D R}
theorem UI {e : Env} {u : Nat -> Value} : D.dh R e u (di []) (e.v R.kv) = D.env e u 0 := by
 unfold dh
 have : (fun n => if n = D.r then di [] else if n = R.kv then e.v R.kv else e.v n) = (D.env e u 0).v := by
  funext n
  simp only [env]
  by_cases h : n = D.r
  ·rw [if_pos h, if_pos h]; rfl
  ·rw [if_neg h, if_neg h]
   by_cases h2 : n = R.kv
   ·rw [if_pos h2, h2]
   ·rw [if_neg h2]
 rw [this]
theorem MN (hne : Nat.beq D.r R.kv = false) (e : Env) (u : Nat -> Value) (vis : List Dv) (y : Dv) : cY (D.dh R e u (di vis) y) (D.dh R e u (di (vis ++ [y])) y) (D.Zf R) (fun _ => true) := by
 have hne' : ¬ R.kv = D.r := fun h => by rw [h] at hne; simp at hne
 refine ⟨fun n => ?_, rfl, fun _ _ _ => rfl, rfl, rfl⟩; unfold Zf; cases hb : Nat.beq n D.r with
 | true =>
   obtain rfl := Nat.eq_of_beq_eq_true hb; simp only [cond_true, zc, E.den, O2.den, dh, if_true, if_neg hne']; rw [IZ]; rfl
 | false =>
   have : n ≠ D.r := fun e => by subst e; simp at hb
   simp only [cond_false, E.den, dh, if_neg this]
theorem EJ (e : Env) (u : Nat -> Value) (vis : List Dv) : cY (D.dh R e u (di vis) (e.v R.kv)) (D.env e u 0) D.TK (fun _ => true) := by
 refine ⟨fun n => ?_, rfl, fun _ _ _ => rfl, rfl, rfl⟩; unfold TK; cases hb : Nat.beq n D.r with
 | true => obtain rfl := Nat.eq_of_beq_eq_true hb; simp only [cond_true, E.den, env, if_true]; rfl
 | false =>
   have : n ≠ D.r := fun e => by subst e; simp at hb
   simp only [cond_false, E.den, env, dh, if_neg this]
   by_cases h2 : n = R.kv
   ·rw [if_pos h2, h2]
   ·rw [if_neg h2]
theorem Wm (e : Env) (u : Nat -> Value) (x y y' : Dv) : CH R.kv (D.dh R e u x y) (D.dh R e u x y') := ⟨fun m hm => by simp only [dh, if_neg hm], rfl, rfl, rfl, rfl⟩
end
def oB (D : aj) (R : AR) (H : Head) : Option E :=
 match b9 H.ov R.it, bZ H.h R.kI, bZ H.h R.m with
 | some (.ptr n (.c 0)), some (.pf m kk V), some (.k7 kk' _ _ e (some n')) => cond (Nat.beq n R.kI && Nat.beq m R.m && Nat.beq n' R.kI && dT R.kk kk && dT R.kk kk' && V.same (.v D.r)) (some e) none
 | _, _, _ => none
theorem zE {D : aj} {R : AR} {H : Head} {e : E} (h : oB D R H = some e) : b9 H.ov R.it = some (.ptr R.kI (.c 0)) /\ bZ H.h R.kI = some (.pf R.m R.kk (.v D.r)) /\ ∃ ag ks, bZ H.h R.m = some (.k7 R.kk ag ks e (some R.kI)) := by
 unfold oB at h; split at h
 ·rename_i n m kk V kk' ag ks e' n' g1 g2 g3; cases hb : (Nat.beq n R.kI && Nat.beq m R.m && Nat.beq n' R.kI && dT R.kk kk && dT R.kk kk' && V.same (.v D.r)) with
  | false => rw [hb] at h; cases h
  | true =>
    rw [hb] at h; simp only [cond_true, Option.some.injEq] at h; subst h; simp only [Bool.and_eq_true] at hb; obtain ⟨⟨⟨⟨⟨b1, b2⟩, b3⟩, b4⟩, b5⟩, b6⟩ := hb; obtain rfl := Nat.eq_of_beq_eq_true b1; obtain rfl := Nat.eq_of_beq_eq_true b2; obtain rfl := Nat.eq_of_beq_eq_true b3; obtain rfl := E.ax b6; rw [<- c9 b4] at g2; rw [<- c9 b5] at g3; exact ⟨g1, g2, ag, ks, g3⟩
 ·cases h
def Kf (D : aj) (H : Head) (u : Nat -> Value) (d1 d2 : Nat) (b : Bool) : List SV := jb (jb (et (D.full H).ov u 0 D.N) (some d1) .top) (some d2) (.bool (.bl b))
def Qv (D : aj) (R : AR) (H : Head) (b : Bool) : aQ := cond b (Ai H.h R.kI (.pf R.m R.kk (D.zc R))) H.h
def Q9 (D : aj) (R : AR) (H : Head) (e : E) (b : Bool) : aa := cond b ((kY (.il 0) (.o2 (.mf R.kk.q) e (.v R.kv)), true) :: H.fs) H.fs
def ER (P : Program) (D : aj) (R : AR) (μ : Nat) (b : Bool) : Ex (List bR) :=
 match Wc (fR P D.f D.key), oB D R (D.hd μ) with
 | some (it, d1, d2, r), some e =>
   cond (Nat.beq it R.it && Nat.blt it D.N && Nat.blt d1 D.N && (!(Nat.beq D.r R.kv)) && (D.hd μ).h.all (fun x => x.2.dt R.kv) && SV.noVs R.kv (et (D.full (D.hd μ)).ov (fun _ => .nilIface) 0 D.N))
    (ik P D.X D.fuel (.code D.f r ⟨Kf D (D.hd μ) (fun _ => .nilIface) d1 d2 b, D.iN⟩) (Qv D R (D.hd μ) b) (D.hd μ).m D.np (Q9 D R (D.hd μ) e b) [])
    (.error (.msg "not a loop over a map as it is known"))
 | _, _ => .error (.msg "not a loop over a map")
def KL (P : Program) (D : aj) (R : AR) (nh : Nat) (q : bR) : Option (aa × List Ob) :=
 match (D.dY q.fr.sl).at q.h with
 | some μ' =>
   match Nz q (D.hd μ') with
   | some l =>
     match q.lz (D.kd P) (D.hd μ').ov (D.hd μ').h l with
     | some (q', ob) => cond (D.ml μ' && Nat.beq (sig l q'.nx R.kI) R.kI) ((jR (D.Zf R) (fun _ => true) q' (D.full (D.hd μ')) l D.fixed D.iN).map fun es => (q.fs.take (q.fs.length - nh), jG q.fs (nD (o5 (D.Zf R) (D.mf μ')) ++ (q.vcs ++ (ob ++ es))))) none
     | none => none
   | none => none
 | none => none
def G5 (P : Program) (D : aj) (R : AR) (nh : Nat) (b : Bool) (q : bR) : Option (aa × List Ob) :=
 cond (Nat.beq q.fr.sl.length D.N) (cond (fC q.vcs) (some (q.fs.take (q.fs.length - nh), [.e (.bl false)])) (cond b (match q.ex with | .normal => KL P D R nh q | _ => none) (match q.ex with | .normal => none | _ => D.fU P nh q))) none
def Ix (P : Program) (D : aj) (R : AR) (nh : Nat) (b : Bool) : List bR -> Option (List (aa × List Ob))
 | [] => some []
 | q :: r =>
   match G5 P D R nh b q, Ix P D R nh b r with
   | some x, some l => some (x :: l)
   | _, _ => none
def NA (P : Program) (D : aj) (R : AR) (μ : Nat) (b : Bool) : Option (List (aa × List Ob)) :=
 match ER P D R μ b with
 | .ok l => cond ((D.hd μ).h.all fun x => bS x.2) (Ix P D R (D.hd μ).fs.length b l) none
 | _ => none
theorem yi {P : Program} {D : aj} {R : AR} {nh : Nat} {b : Bool} : ∀ {l : List bR} {L : List (aa × List Ob)}, Ix P D R nh b l = some L -> ∀ q ∈ l, ∃ x ∈ L, G5 P D R nh b q = some x
 | [], L, _, q, hq => by cases hq
 | p :: r, L, h, q, hq => by
   unfold Ix at h; split at h
   ·rename_i x l hx hl; injection h with h; subst h; rcases List.mem_cons.1 hq with rfl | hq
    ·exact ⟨x, List.mem_cons_self .., hx⟩
    ·obtain ⟨y, hy, h2⟩ := yi hl q hq; exact ⟨y, List.mem_cons_of_mem _ hy, h2⟩
   ·cases h
theorem Bo {P : Program} {D : aj} {nh : Nat} {q : bR} {x : aa × List Ob} (hdd : fC q.vcs = false) (hex : q.ex ≠ .normal) (h : D.fU P nh q = some x) : (∀ env, q.fs.aB env -> x.1.aB env) /\
    ∃ ν l q' ob es xs, q.lz (D.kd P) (D.hx ν).ov (D.hx ν).h l = some (q', ob) /\ q.ex = D.oN ν /\ ez D.Gj ν = some xs /\ jR D.TK (fun _ => true) q' (D.full (D.hx ν)) l D.fixed D.iN = some es /\ x.2 = jG q.fs (xs ++ (q.vcs ++ (ob ++ es))) := by
 have htk : ∀ env, q.fs.aB env -> aa.aB env (q.fs.take (q.fs.length - nh)) := fun env hh e b hm => hh e b (List.mem_of_mem_take hm); unfold fU at h; cases hb : Nat.beq q.fr.sl.length D.N with
 | false => rw [hb] at h; cases h
 | true =>
   rw [hb] at h
   have hdl : D.It q = false := by
    unfold It; split
    ·rename_i hn; exact absurd hn hex
    ·exact hdd
   simp only [cond_true, hdl, cond_false] at h; split at h
   ·rename_i ν hnu; split at h
    ·rename_i l xs hl hxs; split at h
     ·rename_i q' ob hth; cases hsm : vU q.ex (D.oN ν) with
      | false => rw [hsm] at h; cases h
      | true =>
        rw [hsm] at h; simp only [cond_true] at h; rw [Option.map_eq_some_iff] at h; obtain ⟨es, h1, rfl⟩ := h; exact ⟨htk, ν, l, q', ob, es, xs, hth, y3 hsm, hxs, h1, rfl⟩
     ·cases h
    ·cases h
   ·cases h
theorem Oe {P : Program} {D : aj} {R : AR} {nh : Nat} {q : bR} {x : aa × List Ob} (h : KL P D R nh q = some x) : (∀ env, q.fs.aB env -> x.1.aB env) /\
    ∃ μ' l q' ob es, q.lz (D.kd P) (D.hd μ').ov (D.hd μ').h l = some (q', ob) /\ D.ml μ' = true /\ sig l q'.nx R.kI = R.kI /\ jR (D.Zf R) (fun _ => true) q' (D.full (D.hd μ')) l D.fixed D.iN = some es /\ x.2 = jG q.fs (nD (o5 (D.Zf R) (D.mf μ')) ++ (q.vcs ++ (ob ++ es))) := by
 have htk : ∀ env, q.fs.aB env -> aa.aB env (q.fs.take (q.fs.length - nh)) := fun env hh e b hm => hh e b (List.mem_of_mem_take hm); unfold KL at h; split at h
 ·rename_i μ' hmu; split at h
  ·rename_i l hl; split at h
   ·rename_i q' ob hth; cases htg : (D.ml μ' && Nat.beq (sig l q'.nx R.kI) R.kI) with
    | false => rw [htg] at h; cases h
    | true =>
      rw [htg] at h; simp only [cond_true, Option.map_eq_some_iff] at h; obtain ⟨es, h1, rfl⟩ := h; rw [Bool.and_eq_true] at htg; exact ⟨htk, μ', l, q', ob, es, hth, htg.1, Nat.eq_of_beq_eq_true htg.2, h1, rfl⟩
   ·cases h
  ·cases h
 ·cases h
theorem sT {P : Program} {D : aj} {R : AR} {μ : Nat} {b : Bool} {L : List (aa × List Ob)} (h : NA P D R μ b = some L) : ∃ it d1 d2 r e l, Wc (fR P D.f D.key) = some (it, d1, d2, r) /\ oB D R (D.hd μ) = some e /\
    it = R.it /\ it < D.N /\ d1 < D.N /\ Nat.beq D.r R.kv = false /\ (D.hd μ).h.all (fun x => x.2.dt R.kv) = true /\ SV.noVs R.kv (et (D.full (D.hd μ)).ov (fun _ => .nilIface) 0 D.N) = true /\
    ik P D.X D.fuel (.code D.f r ⟨Kf D (D.hd μ) (fun _ => .nilIface) d1 d2 b, D.iN⟩) (Qv D R (D.hd μ) b) (D.hd μ).m D.np (Q9 D R (D.hd μ) e b) [] = .ok l /\ ((D.hd μ).h.all fun x => bS x.2) = true /\ Ix P D R (D.hd μ).fs.length b l = some L := by
 unfold NA at h; cases hp : ER P D R μ b with
 | error e => rw [hp] at h; cases h
 | ok l =>
   rw [hp] at h; simp only at h; unfold ER at hp; split at hp
   ·rename_i it d1 d2 r e g1 g2; cases hc : (Nat.beq it R.it && Nat.blt it D.N && Nat.blt d1 D.N && (!(Nat.beq D.r R.kv)) && (D.hd μ).h.all (fun x => x.2.dt R.kv) && SV.noVs R.kv (et (D.full (D.hd μ)).ov (fun _ => .nilIface) 0 D.N)) with
    | false => rw [hc] at hp; cases hp
    | true =>
      rw [hc] at hp; simp only [cond_true] at hp; simp only [Bool.and_eq_true, Bool.not_eq_true'] at hc; obtain ⟨⟨⟨⟨⟨c1, c2⟩, c3⟩, c4⟩, c6⟩, c7⟩ := hc; cases hb : (D.hd μ).h.all fun x => bS x.2 with
      | false => rw [hb] at h; cases h
      | true =>
        rw [hb] at h; exact ⟨it, d1, d2, r, e, l, g1, g2, Nat.eq_of_beq_eq_true c1, Nat.le_of_ble_eq_true c2, Nat.le_of_ble_eq_true c3, c4, c6, c7, hp, rfl, h⟩
   ·cases hp
def Comes (R : AR) (e : E) (en : Env) (vis : List Dv) (k : Dv) : Prop := (∃ row ∈ (e.den en).T, row.headD (.i 0) = k) /\ ∀ k' ∈ vis, R.kk.dv k' ≠ R.kk.dv k
def Over (R : AR) (e : E) (en : Env) (vis : List Dv) : Prop := ∀ row ∈ (e.den en).T, ∃ k ∈ vis, R.kk.dv k = R.kk.dv (row.headD (.i 0))
structure G9 (P : Program) (D : aj) (R : AR) (env : Env) (μ0 : Nat) where
 mode : (Nat -> Value) -> List Dv -> Nat -> Prop
 L : Nat -> Bool -> List (aa × List Ob)
 hX : ∀ vis y u A, eJ P (D.dh R env u (di vis) y) A (D.X.cR P)
 n5 : ∀ u vis μ, mode u vis μ -> ∀ b, NA P D R μ b = some (L μ b)
 Sy : ∀ u vis μ e, mode u vis μ -> oB D R (D.hd μ) = some e -> Over R e (D.dh R env u (di vis) (env.v R.kv)) vis ->
  ∀ x ∈ L μ false, x.1.aB (D.dh R env u (di vis) (env.v R.kv)) -> cL (D.dh R env u (di vis) (env.v R.kv)) x.2
 zk : ∀ u vis μ e k, mode u vis μ -> oB D R (D.hd μ) = some e -> Comes R e (D.dh R env u (di vis) k) vis k ->
  ∀ x ∈ L μ true, x.1.aB (D.dh R env u (di vis) k) -> cL (D.dh R env u (di vis) k) x.2
 As : ∀ u vis μ y, mode u vis μ -> (D.hd μ).fs.aB (D.dh R env u (di vis) y)
 zL : ∀ u vis μ μ' e k, mode u vis μ -> oB D R (D.hd μ) = some e -> Comes R e (D.dh R env u (di vis) k) vis k -> D.ml μ' = true -> (D.mf μ').aB (D.dh R env u (di (vis ++ [k])) k) ->
  ∃ μ2, mode u (vis ++ [k]) μ2 /\ gz (D.hd μ2) (D.hd μ')
 tJ : ∀ u, (D.mf μ0).aB (D.env env u 0) -> ∃ μ2, mode u [] μ2 /\ gz (D.hd μ2) (D.hd μ0)
def left (kb : List (Value × Nat)) (seen : List Nat) : Nat := (kb.filter fun x => !seen.contains x.2).length
theorem Rs {kb : List (Value × Nat)} {seen : List Nat} {v : Value} {b : Nat} (h : (v, b) ∈ kb) (hb : b ∉ seen) : left kb (seen ++ [b]) < left kb seen := by
 unfold left
 induction kb with
 | nil => cases h
 | cons x r ih =>
   have le : (r.filter fun x => !(seen ++ [b]).contains x.2).length <= (r.filter fun x => !seen.contains x.2).length := by
    clear ih h
    induction r with
    | nil => exact Nat.le_refl _
    | cons y t ih =>
      simp only [List.filter_cons]
      by_cases h1 : y.2 ∈ seen
      ·simp [h1]; simpa using ih
      ·by_cases h2 : y.2 = b
       ·simp [h1, h2, hb]; have := ih; simp at this; omega
       ·simp [h1, h2]; simpa using ih
   simp only [List.filter_cons]; rcases List.mem_cons.1 h with e | h
   ·subst e; simp [hb]; have := le; simp at this; omega
   ·have := ih h
    by_cases h1 : x.2 ∈ seen
    ·simp [h1]; simpa using this
    ·by_cases h2 : x.2 = b
     ·simp [h1, h2, hb]; have := le; simp at this; omega
     ·simp [h1, h2]; simpa using this
theorem KQ.eq_self (q : KQ) (d : Dv) : q.eq d d = true := by cases q <;> simp [KQ.eq]
theorem IQ {q : KQ} {k : Dv} : ∀ {l : List (List Dv)}, (∃ row ∈ l, row.headD (.i 0) = k) -> 0 <= aP q k l := by
 intro l h
 have : ∃ j, dL q k l = some j := by
  induction l with
  | nil => obtain ⟨_, h, _⟩ := h; cases h
  | cons x r ih =>
    unfold dL; cases hx : q.eq (x.headD (.i 0)) k with
    | true => exact ⟨0, rfl⟩
    | false =>
      obtain ⟨row, hm, hk⟩ := h; rcases List.mem_cons.1 hm with e | hm
      ·rw [<- e, hk, KQ.eq_self] at hx; cases hx
      ·obtain ⟨j, hj⟩ := ih ⟨row, hm, hk⟩; exact ⟨j + 1, by rw [hj]; rfl⟩
 obtain ⟨j, hj⟩ := this; unfold aP; rw [hj]; exact Int.natCast_nonneg j
theorem adw {P : Program} (hP : Plain P) (hM : P.follows .mixedOrders = true) {D : aj} {R : AR} (hbody : ((P.funcs[D.f]?).bind (·.body)).isSome = true) {e : Env} {μ0 : Nat} (X : G9 P D R e μ0) (hxobj : ∀ ν, ((D.hx ν).h.all fun x => bS x.2) = true)
    {u : Nat -> Value} {μ1 : Nat} (hm1 : X.mode u [] μ1) : acD P D e u μ1 := by
 intro A ρ0 a w Q hs hexit; obtain ⟨it0, d10, d20, r0, e0, l0, k1, k2, k3, k4, k5, k6, k8, k9, k10, k11, k12⟩ := sT (X.n5 u [] μ1 hm1 false); obtain ⟨o1, o2, ag, ks, o3⟩ := zE k2; obtain ⟨p0, q0, s, kb, seen0, i1, i2, i3, i4, i5, i6, i7, i8⟩ := hs.hs.bk R.kI _ o2; have hr0 : (D.env e u 0).v D.r = .i 0 := by simp [env]
 let I : Nat -> Act -> World -> Prop := fun r a' w' => ∃ vis y μ ρ seen, X.mode u vis μ /\ b7 R.kk kb (vis.map fun k => [k]) seen /\ left kb seen <= r /\ ρ R.kI = some p0 /\ ((∀ k ∈ D.fixed, ∀ p, ρ0 k = some p -> ρ k = some p) /\ Fz.le ρ0.fz ρ.fz) /\
  Sat (D.dh R e u (di vis) y) A ρ ⟨et (D.full (D.hd μ)).ov u 0 D.N, D.iN⟩ (bg (D.hd μ).h) (D.hd μ).m a' w'
 refine DP I ?_ (left kb []) a w ⟨[], e.v R.kv, μ1, ρ0, [], hm1, .nil, Nat.le_refl _, i1, ⟨fun _ _ _ h => h, Fz.le_refl _⟩, by rw [UI]; exact hs⟩
 clear k1 k2 k3 k4 k5 k8 k9 k10 k11 k12 o1 o2 o3 it0 d10 d20 r0 e0 l0; rintro r a' w' ⟨vis, y, μ, ρ, seen, hmode, hseen, hleft, hpI, hfix, hsat⟩
 have go : ∀ b, ∃ d1 d2 rest ex l, Wc (fR P D.f D.key) = some (R.it, d1, d2, rest) /\ oB D R (D.hd μ) = some ex /\ d1 < D.N /\ R.it < D.N /\ (D.hd μ).h.all (fun x => x.2.dt R.kv) = true /\ SV.noVs R.kv (et (D.full (D.hd μ)).ov u 0 D.N) = true /\
     ik P D.X D.fuel (.code D.f rest ⟨Kf D (D.hd μ) u d1 d2 b, D.iN⟩) (Qv D R (D.hd μ) b) (D.hd μ).m D.np (Q9 D R (D.hd μ) ex b) [] = .ok l /\ ((D.hd μ).h.all fun x => bS x.2) = true /\ Ix P D R (D.hd μ).fs.length b l = some (X.L μ b) := by
  intro b; obtain ⟨it, d1, d2, rest, ex, l, k1, k2, rfl, k4, k5, k6, k8, k9, k10, k11, k12⟩ := sT (X.n5 u vis μ hmode b); refine ⟨d1, d2, rest, ex, l, k1, k2, k5, k4, k8, ?_, ?_, k11, k12⟩
  ·unfold full lq; simp only; rw [gD u (fun _ => .nilIface)]; exact k9
  ·have e1 : Kf D (D.hd μ) u d1 d2 b = Kf D (D.hd μ) (fun _ => .nilIface) d1 d2 b := by unfold Kf full lq; simp only; rw [gD u (fun _ => .nilIface)]
   rw [e1]; exact k10
 obtain ⟨d1, d2, rest, ex, lo, k1, k2, hd1, hit, nv1, nv2, xo, hobj, ao⟩ := go false; obtain ⟨d1', d2', rest', ex', ls, k1', k2', _, _, _, _, xs, _, as⟩ := go true; rw [k1] at k1'; injection k1' with k1'; injection k1' with _ k1'; injection k1' with z1 k1'; injection k1' with z2 z3; subst z1; subst z2; subst z3; rw [k2] at k2'; injection k2' with k2'; subst k2'; clear go; obtain ⟨o1, o2, ag, ks, o3⟩ := zE k2; obtain ⟨hkeys, hborn, seenW, hsW, hnext⟩ := hsat.hs.next (kI := R.kI) (m := R.m) o2 o3 hpI i6
 have hVT : ∀ y, ((E.v D.r).den (D.dh R e u (di vis) y)).T = vis.map fun k => [k] := fun y => by simp only [E.den, dh, if_true, AW]
 rw [hVT] at hsW; obtain rfl := b7.inj hkeys hsW hseen
 have hexnv : ex.dt R.kv = true := by
  have := List.all_eq_true.1 nv1 (R.m, .k7 R.kk ag ks ex (some R.kI)) (by
   have : ∀ {c : aQ} {n : Nat} {o : aA}, bZ c n = some o -> (n, o) ∈ c := by
    intro c
    induction c with
    | nil => intro n o h; cases h
    | cons z t ih =>
      intro n o h; obtain ⟨k, z⟩ := z; unfold bZ at h; cases hb : Nat.beq k n with
      | true => rw [hb] at h; simp only [cond_true, Option.some.injEq] at h; subst h; rw [Nat.eq_of_beq_eq_true hb]; exact List.mem_cons_self ..
      | false => rw [hb] at h; exact List.mem_cons_of_mem _ (ih h)
   exact this o3)
  exact this
 have hexd : ∀ y', ex.den (D.dh R e u (di vis) y') = ex.den (D.dh R e u (di vis) y) := fun y' => E.bE (Wm e u _ y y') hexnv; have hinb : lR P D.f (bK rest) := by rw [IH k1]; exact oJ D.key hbody
 have hsz : a'.tmps.size = D.N := by have := hsat.sl.length; rw [eK] at this; simpa using this
 have hev : a'.eval (.tmp R.it) = .pointer (some ⟨p0.block, p0.base + 0, none⟩) := by
  have hg : (et (D.full (D.hd μ)).ov u 0 D.N)[R.it]? = some (.ptr R.kI (.c 0)) := by
   rw [kW D.N 0 R.it hit, Nat.zero_add]; unfold full lq jF; simp only; rw [dm, o1]
  obtain ⟨v, hv, hr⟩ := hsat.sl.get hg; simp only [SV.Rel] at hr; obtain ⟨p, hp, rfl⟩ := hr; rw [hpI] at hp; injection hp with hp; subst hp; unfold Act.eval; simp only [Array.getD_eq_getD_getElem?]; rw [<- Array.getElem?_toList, hv]; rfl
 have hobjs : ∀ {vis μ}, X.mode u vis μ -> ((D.hd μ).h.all fun x => bS x.2) = true := fun hm => by
  obtain ⟨_, _, _, _, _, _, _, _, _, _, _, _, _, _, _, h, _⟩ := sT (X.n5 u _ _ hm false); exact h
 rcases hnext with ⟨hrun, hov⟩ | ⟨row, hrow, b, v, w1, hrun, hkb, hbs, hnew, bf⟩
 ·
  refine Cj k1 (by rw [hsz]; exact hd1) (fun ty => by rw [hev]; exact hrun ty) ?_
  have hsat' := Sat.dt (Wm e u (di vis) y (e.v R.kv)) nv1 nv2 (fun ds h => vv (e := D.dh R e u (di vis) y) (e' := D.dh R e u (di vis) (e.v R.kv)) (fun _ _ => rfl) h) hsat
  have hO : Over R ex (D.dh R e u (di vis) (e.v R.kv)) vis := fun row hrow => by
   rw [hexd] at hrow; obtain ⟨r2, h1, h2⟩ := hov row hrow; rw [hVT] at h1; obtain ⟨k, hk, rfl⟩ := List.mem_map.1 h1; exact ⟨k, hk, h2⟩
  refine ku hP hM (X.hX vis (e.v R.kv) u A) hinb xo (X.As u vis μ _ hmode) (ρ := ρ) ⟨hsat'.hs, (kB (dst := some d2) (x := .bool (.bl false)) (v := .bool false) (kB (dst := some d1) (x := .top) (v := .tuple (Value.bool false :: []).toArray) hsat'.sl trivial) rfl), by rw [put_defers, put_defers]; exact hsat'.df, hsat'.nx⟩ fun q hq hqf => ?_
  obtain ⟨x, hxL, hx⟩ := yi ao q hq; unfold G5 at hx; cases hln : Nat.beq q.fr.sl.length D.N with
  | false => rw [hln] at hx; cases hx
  | true =>
  rw [hln] at hx; have hfx0 : aa.aB (D.dh R e u (di vis) (e.v R.kv)) (q.fs.take (q.fs.length - (D.hd μ).fs.length)) := fun e t hm => hqf e t (List.mem_of_mem_take hm); cases hdd : fC q.vcs with
  | true =>
    rw [hdd, cond_true, cond_true] at hx; injection hx with hx; subst hx; exact (gL (vcs := [.e (.bl false)]) rfl (X.Sy u vis μ ex hmode k2 hO _ hxL hfx0)).elim
  | false =>
  rw [hdd] at hx; simp only [cond_true, cond_false] at hx; have hex : q.ex ≠ .normal := fun h => by rw [h] at hx; cases hx
  have hx : D.fU P (D.hd μ).fs.length q = some x := by
   split at hx
   ·cases hx
   ·exact hx
  obtain ⟨hfx, ν, l, q', ob, es, xs', hth, h1, h2, h3, h4⟩ := Bo hdd hex hx; have ht := X.Sy u vis μ ex hmode k2 hO x hxL (hfx _ hqf); rw [h4] at ht; have ht := gS hqf ht; obtain ⟨t0, ht⟩ := aM.1 ht; obtain ⟨t5, ht⟩ := aM.1 ht; obtain ⟨t3, t4⟩ := aM.1 ht; refine ⟨t5, fun ρ' a2 w2 hle hs2 => ?_⟩; have hT := bR.nu hth t3; obtain ⟨ρ3, hle3, hs3⟩ := hT.sat A ρ' a2 w2 hs2; have T := nC (u := fun _ => .nilIface) (EJ e u vis) (D.AD (EJ e u vis)) h3 t4; obtain ⟨ys, hy1, hy2⟩ := lV (EJ e u vis) h2 t0; have S := rN hs3 T.ov T.hp (hxobj ν) T.inj T.lt T.df T.dv (hT.len.trans (Nat.eq_of_beq_eq_true hln)) T.B2
  have hq : Q (D.oN ν).den a2 w2 := hexit ν (ρ3.re (sig l q'.nx)) a2 w2 ⟨ys, hy1, hy2⟩ ⟨fun k hk p hp => by
   show ρ3 (sig l q'.nx k) = some p; rw [T.fixed k hk]
   exact hle3 k p (hle k p (hfix.1 k hk p hp)), Fz.le_trans hfix.2 (Fz.le_trans hle.fz hle3.fz)⟩ (by
    have e : et (D.full (D.hx ν)).ov (fun j => (a2.tmps.toList[j]?).getD undef) 0 D.N = et (D.full (D.hx ν)).ov (fun _ => .nilIface) 0 D.N := gD _ _; rw [e] at S
    exact S)
  rw [<- h1] at hq; cases hqe : q.ex with
  | normal => exact absurd hqe hex
  | exit m => rw [hqe] at hq; exact hq
  | ret => rw [hqe] at hq; exact hq
 ·
  refine Cj k1 (by rw [hsz]; exact hd1) (fun ty => by rw [hev]; exact hrun ty) ?_
  generalize hkd : row.headD (.i 0) = k at *; have hsat' := Sat.dt (Wm e u (di vis) y k) nv1 nv2 (fun ds h => vv (e := D.dh R e u (di vis) y) (e' := D.dh R e u (di vis) k) (fun _ _ => rfl) h) hsat; have hC : Comes R ex (D.dh R e u (di vis) k) vis k := ⟨⟨row, by rw [hexd]; exact hrow, hkd⟩, fun k' hk' => hnew [k'] (by rw [hVT]; exact List.mem_map.2 ⟨k', hk', rfl⟩)⟩
  have hne' : ¬ R.kv = D.r := fun h => by rw [h] at k6; simp at k6
  have hsn : ((D.zc R).den (D.dh R e u (di vis) k)).T = ((E.v D.r).den (D.dh R e u (di vis) y)).T ++ [[k]] := by
   rw [hVT]; show ((E.v D.r).den (D.dh R e u (di vis) k)).T ++ _ = _; rw [hVT]; simp only [E.den, O2.den, dh, if_neg hne', if_true]; rfl
  have hH := bf _ (D.zc R) hsn hsat'.hs
  have hhp : az (D.dh R e u (di vis) k) A ρ (bg (Qv D R (D.hd μ) true)) w1 := by
   show az _ _ _ (bg (Ai (D.hd μ).h R.kI (.pf R.m R.kk (D.zc R)))) _; rw [th]; exact hH
  have As : (Q9 D R (D.hd μ) ex true).aB (D.dh R e u (di vis) k) := by
   refine aa.fh ?_ (X.As u vis μ k hmode); rw [CG, dS]; refine decide_eq_true ?_; show 0 <= aP R.kk.q ((E.v R.kv).den _) (ex.den _).T; have : (E.v R.kv).den (D.dh R e u (di vis) k) = k := by simp only [E.den, dh, if_neg hne', if_true]
   rw [this]; exact IQ hC.1
  refine ku hP hM (X.hX vis k u A) hinb xs As (ρ := ρ) ⟨hhp, (kB (dst := some d2) (x := .bool (.bl true)) (v := .bool true) (kB (dst := some d1) (x := .top) (v := .tuple (Value.bool true :: [R.kk.dv k, v]).toArray) hsat'.sl trivial) rfl), by rw [put_defers, put_defers]; exact hsat'.df, hsat'.nx⟩ fun q hq hqf => ?_
  obtain ⟨x, hxL, hx⟩ := yi as q hq; unfold G5 at hx; cases hln : Nat.beq q.fr.sl.length D.N with
  | false => rw [hln] at hx; cases hx
  | true =>
  rw [hln] at hx; have hfx0 : aa.aB (D.dh R e u (di vis) k) (q.fs.take (q.fs.length - (D.hd μ).fs.length)) := fun e t hm => hqf e t (List.mem_of_mem_take hm); cases hdd : fC q.vcs with
  | true =>
    rw [hdd, cond_true, cond_true] at hx; injection hx with hx; subst hx; exact (gL (vcs := [.e (.bl false)]) rfl (X.zk u vis μ ex k hmode k2 hC _ hxL hfx0)).elim
  | false =>
  rw [hdd] at hx; simp only [cond_true, cond_false] at hx; cases hqe : q.ex with
  | exit m => rw [hqe] at hx; cases hx
  | ret => rw [hqe] at hx; cases hx
  | normal =>
  rw [hqe] at hx; simp only at hx; obtain ⟨hfx, μ', l, q', ob, es, hth, htg, hsg, h1, h2⟩ := Oe hx; have ht := X.zk u vis μ ex k hmode k2 hC x hxL (hfx _ hqf); rw [h2] at ht; have ht := gS hqf ht; obtain ⟨t0, ht⟩ := aM.1 ht; obtain ⟨t5, ht⟩ := aM.1 ht; obtain ⟨t3, t4⟩ := aM.1 ht; refine ⟨t5, fun ρ' a2 w2 hle hs2 => ?_⟩; obtain ⟨μ2, hm2, hsame⟩ := X.zL u vis μ μ' ex k hmode k2 hC htg (j8 (MN k6 e u vis k) (j9 t0)); have hT := bR.nu hth t3; obtain ⟨ρ3, hle3, hs3⟩ := hT.sat A ρ' a2 w2 hs2; have T := (hsame.full D.base D.N D.js).turns (nC (u := u) (MN k6 e u vis k) (D.AD (MN k6 e u vis k)) h1 t4); have S := rN hs3 T.ov T.hp (hobjs hm2) T.inj T.lt T.df T.dv (hT.len.trans (Nat.eq_of_beq_eq_true hln)) T.B2; have cW := Rs hkb hbs; show ∃ m, r = m + 1 /\ I m a2 w2; refine ⟨r - 1, by omega, vis ++ [k], k, μ2, ρ3.re (sig l q'.nx), seenW ++ [b], hm2, by rw [List.map_append]; exact b7.snoc (by rw [List.headD_cons]; exact hkb) hseen, by omega, (by show ρ3 (sig l q'.nx R.kI) = some p0; rw [hsg]; exact hle3 _ _ (hle _ _ hpI)), ⟨fun k hk p hp => ?_, Fz.le_trans hfix.2 (Fz.le_trans hle.fz hle3.fz)⟩, ?_⟩
  ·show ρ3 (sig l q'.nx k) = some p; rw [T.fixed k hk]; exact hle3 k p (hle k p (hfix.1 k hk p hp))
  ·have e : et (D.full (D.hd μ2)).ov (fun j => (a2.tmps.toList[j]?).getD undef) 0 D.N = et (D.full (D.hd μ2)).ov u 0 D.N := gD _ _; rw [<- e]; exact S
theorem Vy {P : Program} (hP : Plain P) (hM : P.follows .mixedOrders = true) {D : aj} {R : AR} (hbody : ((P.funcs[D.f]?).bind (·.body)).isSome = true) {env : Env}
    (hR : ∀ e', jI D env e' -> ∀ μ0, D.nT μ0 = true -> (D.aV μ0).aB e' -> Nonempty (G9 P D R e' μ0)) (hxobj : ∀ ν, ((D.hx ν).h.all fun x => bS x.2) = true) : eg P env D.f D.key D.dB := by
 refine GY (fun e' he μ0 h0 hent u hmf => ?_) hxobj; obtain ⟨X⟩ := hR e' he μ0 h0 hent; obtain ⟨μ2, hm, hs⟩ := X.tJ u hmf; exact ⟨μ2, hs, adw hP hM hbody X hxobj hm⟩
end aj
theorem bO {env : Env} {x : E} {b : Bool} {fs : aa} : aa.aB env ((x, b) :: fs) ↔ (x.den env).B = b /\ aa.aB env fs :=
 ⟨fun h => ⟨h x b (List.mem_cons_self ..), fun y c hm => h y c (List.mem_cons_of_mem _ hm)⟩, fun h => aa.fh h.1 h.2⟩
theorem z7 {env : Env} : aa.aB env [] ↔ True := ⟨fun _ => trivial, fun _ x b hx => by cases hx⟩
theorem Kk {env : Env} {x : Ob} {l : List Ob} : cL env (x :: l) ↔ x.den env /\ cL env l :=
 ⟨fun h => ⟨h x (List.mem_cons_self ..), fun y hm => h y (List.mem_cons_of_mem _ hm)⟩, fun h y hm => (List.mem_cons.1 hm).elim (fun e => e ▸ h.1) (h.2 y)⟩
theorem vI {env : Env} : cL env [] ↔ True := ⟨fun _ => trivial, fun _ x hx => by cases hx⟩
def br (env : Env) : List (aa × List Ob) -> Prop
 | [] => True
 | x :: r => (x.1.aB env -> cL env x.2) /\ br env r
theorem gW {env : Env} : ∀ {L : List (aa × List Ob)}, br env L -> ∀ x ∈ L, x.1.aB env -> cL env x.2
 | [], _, x, hx => by cases hx
 | y :: r, h, x, hx => by
   rcases List.mem_cons.1 hx with rfl | hx
   ·exact h.1
   ·exact gW h.2 x hx
theorem al {env : Env} {f : aa} {l : List Ob} {r : List (aa × List Ob)} : br env ((f, l) :: r) ↔ (f.aB env -> cL env l) /\ br env r := Iff.rfl
theorem av {env : Env} : br env [] ↔ True := Iff.rfl
theorem yf {env : Env} : ∀ {a b : List (aa × List Ob)}, br env a -> br env b -> br env (a ++ b)
 | [], _, _, hb => hb
 | _ :: _, _, ha, hb => ⟨ha.1, yf ha.2 hb⟩
abbrev fT (e : E) (l : aa) : aa := (e, true) :: l
abbrev fF (e : E) (l : aa) : aa := (e, false) :: l
abbrev oO (e : E) (l : List Ob) : List Ob := .e e :: l
abbrev oT (a b : E) (l : List Ob) : List Ob := .t a b :: l
abbrev oP (a b : E) (l : List Ob) : List Ob := .p a b :: l
abbrev eP (a b : E) : E := .o2 .bT a b
abbrev eC (j : Nat) (x i : E) : E := .o2 (.cell j) x i
theorem afE {env : Env} {x : E} : (Ob.e x).den env ↔ (x.den env).B = true := Iff.rfl
theorem B5 {env : Env} {a b : E} : ((E.o2 .lt a b).den env).B = decide ((a.den env).I < (b.den env).I) := id rfl
theorem sI {env : Env} {a b : E} : ((E.o2 .le a b).den env).B = decide ((a.den env).I <= (b.den env).I) := id rfl
theorem On {env : Env} {a b : E} : ((E.o2 .aX a b).den env).B = decide ((a.den env).I = (b.den env).I) := by
 show ((a.den env).I == (b.den env).I) = _
 by_cases h : (a.den env).I = (b.den env).I <;> simp [h]
theorem Vi {env : Env} {a b : E} : ((E.o2 .beq a b).den env).B = ((a.den env).B == (b.den env).B) := id rfl
theorem Yx {env : Env} {a b : E} : ((E.o2 .seq a b).den env).B = ((a.den env).S.toList == (b.den env).S.toList) := id rfl
theorem U4 {env : Env} {a b : E} : ((E.o2 .and a b).den env).B = ((a.den env).B && (b.den env).B) := id rfl
theorem ad0 {env : Env} {a b : E} : ((E.o2 .or a b).den env).B = ((a.den env).B || (b.den env).B) := id rfl
theorem Vj {env : Env} {a : E} : ((E.o1 .not a).den env).B = !(a.den env).B := id rfl
theorem abj {env : Env} {b : Bool} : ((E.bl b).den env).B = b := id rfl
theorem xX {env : Env} {z : Int} : ((E.il z).den env).I = z := id rfl
theorem Y9 {env : Env} {a b : E} : ((E.o2 .add a b).den env).I = (a.den env).I + (b.den env).I := id rfl
theorem U8 {env : Env} {a b : E} : ((E.o2 .sub a b).den env).I = (a.den env).I - (b.den env).I := id rfl
theorem X8 {env : Env} {a b : E} : ((E.o2 .mul a b).den env).I = (a.den env).I * (b.den env).I := id rfl
theorem abR {env : Env} {a b : E} : ((E.o2 .mn a b).den env).I = if (b.den env).I < (a.den env).I then (b.den env).I else (a.den env).I := id rfl
theorem aam {env : Env} {a b : E} : ((E.o2 .mx a b).den env).I = if (b.den env).I > (a.den env).I then (b.den env).I else (a.den env).I := id rfl
theorem Pf {env : Env} {a : E} : ((E.o1 .size a).den env).I = ((a.den env).S.size : Int) := id rfl
theorem aem {env : Env} {s : List UInt8} : ((E.sl s).den env).S = ⟨s.toArray⟩ := id rfl
theorem HL {env : Env} {n : Nat} : (E.v n).den env = env.v n := id rfl
theorem I_i (z : Int) : (Dv.i z).I = z := id rfl
theorem B_b (z : Bool) : (Dv.b z).B = z := id rfl
theorem S_s (z : ByteArray) : (Dv.s z).S = z := id rfl
def stop (bad : Nat -> Bool) : Nat -> Nat
 | 0 => 0
 | n + 1 => if bad 0 then 0 else stop (fun j => bad (j + 1)) n + 1
theorem ln {bad : Nat -> Bool} : ∀ {n : Nat}, stop bad n <= n
 | 0 => Nat.le_refl _
 | n + 1 => by
   unfold stop; split
   ·exact Nat.zero_le _
   ·have := ln (bad := fun j => bad (j + 1)) (n := n); omega
theorem bP {bad : Nat -> Bool} : ∀ {n j : Nat}, j < stop bad n -> bad j = false
 | 0, j, h => by simp [stop] at h
 | n + 1, j, h => by
   unfold stop at h; split at h
   ·omega
   ·rename_i h0; cases j with
    | zero => simpa using h0
    | succ j => exact bP (bad := fun j => bad (j + 1)) (n := n) (j := j) (by omega)
theorem m8 {bad : Nat -> Bool} : ∀ {n : Nat}, stop bad n < n -> bad (stop bad n) = true
 | 0, h => by omega
 | n + 1, h => by
   unfold stop at h ⊢; split at h
   ·rename_i h0; rw [if_pos h0]; exact h0
   ·rename_i h0; rw [if_neg h0]; exact m8 (bad := fun j => bad (j + 1)) (n := n) (by omega)
def cc (l : List Dv) (k : Nat) : Dv := (l[k]?).getD (.i 0)
def row (d : Dv) (i : Nat) : List Dv := (d.T[i]?).getD []
def pk (l : List E) : E := l.foldr (fun a b => .o2 .bT a b) (.il 0)
theorem ab1 {env : Env} {a b : E} : (E.o2 .bT a b).den env = O2.den .bT (a.den env) (b.den env) := id rfl
theorem aga {env : Env} {z : Int} : (E.il z).den env = .i z := id rfl
theorem agr {env : Env} {z : Bool} : (E.bl z).den env = .b z := id rfl
theorem af5 {env : Env} {s : List UInt8} : (E.sl s).den env = .s ⟨s.toArray⟩ := id rfl
theorem afA {env : Env} {c : Nat} {a : E} : (E.uf c a).den env = env.uf c (a.den env) := id rfl
theorem VC {env : Env} {j : Nat} {a b : E} : (E.o2 (.cell j) a b).den env = cc (row (a.den env) (b.den env).I.toNat) j := id rfl
theorem aa3 {env : Env} {a b : E} : (E.o2 .add a b).den env = .i ((a.den env).I + (b.den env).I) := id rfl
theorem RI {env : Env} {a : E} : ((E.o1 .ab a).den env).I = ((a.den env).T.length : Int) := id rfl
theorem UM {env : Env} {a : E} : (E.o1 .ab a).den env = .i ((a.den env).T.length : Int) := id rfl
theorem UH {env : Env} {a b : E} : ((E.o2 .quo a b).den env).I = (a.den env).I.tdiv (b.den env).I := id rfl
theorem Wl {env : Env} {a b : E} : (E.o2 .de a b).den env = .t ((a.den env).T.take (b.den env).I.toNat) := id rfl
theorem RS {env : Env} {a b : E} : ((E.o2 .de a b).den env).T = (a.den env).T.take (b.den env).I.toNat := id rfl
theorem Pm {env : Env} {a b : E} : ((E.o2 .tT a b).den env).T = (a.den env).T.drop (b.den env).I.toNat := id rfl
theorem Ui {env : Env} {a b : E} : ((E.o2 .fj a b).den env).T = (a.den env).T ++ (b.den env).T := id rfl
theorem acL {a b : Dv} : (O2.den .bT a b).T = [a :: b.T.head?.getD []] := id rfl
theorem T_i {z : Int} : (Dv.i z).T = [] := id rfl
theorem OQ {l : List (List Dv)} : (Dv.t l).T = l := id rfl
theorem agJ {env : Env} {a b : E} : (Ob.t a b).den env ↔ (a.den env).T = (b.den env).T := Iff.rfl
theorem Dy {B : Nat -> Bool} {n i : Nat} (hi : i <= stop B n) (hn : i < n) (hb : B i = true) : stop B n < n := by
 have := @ln B n; rcases Nat.lt_or_ge (stop B n) n with h | h
 ·exact h
 ·have : B i = false := bP (n := n) (by omega)
  rw [hb] at this; cases this
theorem sC {B : Nat -> Bool} {n i : Nat} (hi : i <= stop B n) (hn : i < n) (hb : B i = false) : i < stop B n := by
 rcases Nat.lt_or_ge i (stop B n) with h | h
 ·exact h
 ·have e : i = stop B n := by omega
  have : B (stop B n) = true := m8 (by omega)
  rw [<- e, hb] at this; cases this
theorem Gq {P : Program} (hP : Plain P) (hM : P.follows .mixedOrders = true) {D : aj} (hbody : ((P.funcs[D.f]?).bind (·.body)).isSome = true) {env : Env} {L : List (aa × List Ob)} (len : Env -> Nat) (ho : D.jC P 0 = some L)
    (hk : ∀ m, D.nT m = true -> m = 0) (ht : ∀ m, D.ml m = true -> m = 0) (hxobj : ∀ ν, ((D.hx ν).h.all fun x => bS x.2) = true)
    (hX : ∀ e' i u A, aj.jI D env e' -> (D.aV 0).aB e' -> i <= len e' -> eJ P (D.env e' u i) A (D.X.cR P))
    (hL : ∀ e', aj.jI D env e' -> (D.aV 0).aB e' -> ∀ i u, i <= len e' -> br (D.env e' u i) L)
    (As : ∀ e', aj.jI D env e' -> (D.aV 0).aB e' -> ∀ i u, i <= len e' -> (D.hd 0).fs.aB (D.env e' u i))
    (cW : ∀ e', aj.jI D env e' -> (D.aV 0).aB e' -> ∀ i u, i <= len e' -> (D.lt.den (D.env e' u i)).B = true -> i < len e') : eg P env D.f D.key D.dB := by
 refine aj.ED hP hM hbody (fun e' he μ0 h0 hent => ?_) hxobj; obtain rfl := hk μ0 h0
 exact ⟨⟨len e', fun _ i μ => μ = 0, fun _ => L, fun i u A hi => hX e' i u A he hent hi, fun u i μ hm => by rw [hm]; exact ho, fun i μ u hm hi x hx hfx => gW (hL e' he hent i u hi) x hx hfx,
  fun i μ u hm hi => by rw [hm]; exact As e' he hent i u hi, fun i u hi hl => cW e' he hent i u hi hl, fun u i μ μ' hm h _ _ => ⟨0, rfl, by rw [ht μ' h]; exact gz.refl _⟩, fun u _ => ⟨0, rfl, gz.refl _⟩⟩⟩
theorem UE {P : Program} (hP : Plain P) (hM : P.follows .mixedOrders = true) {D : aj} (hbody : ((P.funcs[D.f]?).bind (·.body)).isSome = true) {env : Env} {L0 L1 : List (aa × List Ob)} (len : Env -> Nat) (ho0 : D.jC P 0 = some L0) (ho1 : D.jC P 1 = some L1)
    (hk : ∀ m, D.nT m = true -> m = 0) (ht : ∀ m, D.ml m = true -> m = 1) (hxobj : ∀ ν, ((D.hx ν).h.all fun x => bS x.2) = true)
    (hX : ∀ e' i u A, aj.jI D env e' -> (D.aV 0).aB e' -> i <= len e' -> eJ P (D.env e' u i) A (D.X.cR P))
    (hL0 : ∀ e', aj.jI D env e' -> (D.aV 0).aB e' -> ∀ u, br (D.env e' u 0) L0)
    (hL1 : ∀ e', aj.jI D env e' -> (D.aV 0).aB e' -> ∀ i u, 0 < i -> i <= len e' -> br (D.env e' u i) L1)
    (hfs0 : ∀ e', aj.jI D env e' -> (D.aV 0).aB e' -> ∀ u, (D.hd 0).fs.aB (D.env e' u 0))
    (hfs1 : ∀ e', aj.jI D env e' -> (D.aV 0).aB e' -> ∀ i u, 0 < i -> i <= len e' -> (D.hd 1).fs.aB (D.env e' u i))
    (cW : ∀ e', aj.jI D env e' -> (D.aV 0).aB e' -> ∀ i u, i <= len e' -> (D.lt.den (D.env e' u i)).B = true -> i < len e') : eg P env D.f D.key D.dB := by
 refine aj.ED hP hM hbody (fun e' he μ0 h0 hent => ?_) hxobj; obtain rfl := hk μ0 h0
 refine ⟨⟨len e', fun _ i μ => (μ = 0 /\ i = 0) \/ (μ = 1 /\ 0 < i), fun μ => cond (Nat.beq μ 0) L0 L1, fun i u A hi => hX e' i u A he hent hi, fun u i μ hm => ?_, fun i μ u hm hi x hx hfx => ?_,
  fun i μ u hm hi => ?_, fun i u hi hl => cW e' he hent i u hi hl, fun u i μ μ' hm h _ _ => ⟨1, .inr ⟨rfl, Nat.succ_pos i⟩, by rw [ht μ' h]; exact gz.refl _⟩, fun u _ => ⟨0, .inl ⟨rfl, rfl⟩, gz.refl _⟩⟩⟩
 ·rcases hm with ⟨rfl, _⟩ | ⟨rfl, _⟩
  ·exact ho0
  ·exact ho1
 ·rcases hm with ⟨rfl, rfl⟩ | ⟨rfl, hi0⟩
  ·exact gW (hL0 e' he hent u) x hx hfx
  ·exact gW (hL1 e' he hent i u hi0 hi) x hx hfx
 ·rcases hm with ⟨rfl, rfl⟩ | ⟨rfl, hi0⟩
  ·exact hfs0 e' he hent u
  ·exact hfs1 e' he hent i u hi0 hi
def NM (q : bR) : aa × List Ob := (q.fs, (match q.r with | .bool e => .e e | _ => .e (.bl false)) :: q.vcs)
theorem MY {l : List bR} {env : Env} (h : br env (l.map NM)) : ∀ q ∈ l, q.fs.aB env -> (∀ e ∈ q.vcs, e.den env) /\ ∃ e, q.r = .bool e /\ (e.den env).B = true := by
 intro q hq hf; have := gW h (NM q) (List.mem_map.2 ⟨q, hq, rfl⟩) hf; have h0 := this _ (List.mem_cons_self ..); refine ⟨fun e he => this e (List.mem_cons_of_mem _ he), ?_⟩; cases hr : q.r with
 | bool e => rw [hr] at h0; exact ⟨e, rfl, h0⟩
 | _ => rw [hr] at h0; cases h0
def pF (U : Nat -> Dv -> Dv) : Env := ⟨fun _ => .i 0, fun _ _ => .i 0, fun _ _ => .nilIface, fun _ _ _ => none, U⟩
theorem az.stay {env : Env} {w0 : Anchor} {ρ : af} {h : aL} {w w' : World} (H : az env w0 ρ h w) (K : Kept (anchor w) w') : az env w0 ρ h w' := by
 have blk : ∀ c, c < w.heap.size -> w'.heap[c]? = w.heap[c]? := fun c hc => K.block c hc; have lt : ∀ {c x}, w.heap[c]? = some x -> c < w.heap.size := fun hx => (Array.getElem?_eq_some_iff.1 hx).1; refine ⟨⟨K.os.trans H.below.os, K.tape.trans H.below.tape, K.output.trans H.below.output, Nat.le_trans H.below.size K.size, fun k hk => ?_⟩, fun n o hn => ?_, H.inj, ?_, ?_⟩
 ·rw [blk k (Nat.lt_of_lt_of_le (w0.lt k hk) H.below.size)]; exact H.below.block k hk
 ·refine (H.bk n o hn).cU (af.le_refl ρ) (fun p ho hp => ?_) (fun h0 _ => h0); obtain ⟨q, b, hq, _, hb⟩ := (H.bk n o hn).place ho; rw [hp] at hq; injection hq with hq; subst hq; exact blk _ (lt hb)
 ·exact H.ar.cU (Fz.le_refl _) rfl (fun _ _ _ _ h => h) (fun T ks e h => ⟨ks, e, h⟩) (fun n T ks e i c hm hc => blk c (H.ar.own n T ks e i c hm hc).1) K.size (fun _ h => h) rfl (fun m o q hm ho hq => .inl ⟨m, o, q, hm, ho, hq, rfl⟩) (fun _ _ _ _ _ _ _ _ h => h)
 ·exact H.fz.cU rfl (fun b x hb hx => (blk b (lt hx)).trans hx) (fun m o q hm ho hq => .inl ⟨m, o, q, hm, ho, hq, rfl⟩)
mutual
def DK.noAp : DK -> Bool
 | .sl ks => ks.noAp
 | .fp ks => ks.noAp
 | .eh _ k => k.noAp
 | .ap _ => false
 | _ => true
def aJ.noAp : aJ -> Bool
 | .nil => true
 | .cons k r => k.noAp && r.noAp
end
theorem tC {fz fz' : Fz} (h : fz'.ob = fz.ob) {b j : Nat} : cu fz' b j = cu fz b j := by unfold cu; rw [h]
mutual
theorem DK.Rel.reAr {fz fz' : Fz} (h : fz'.ob = fz.ob) : ∀ {k : DK} {d : Dv} {v : Value}, k.noAp = true -> k.Rel fz d v -> k.Rel fz' d v
 | .int _, _, _, _, r => r
 | .bool, _, _, _, r => r
 | .str, _, _, _, r => r
 | .nilm, _, _, _, r => r
 | .ap _, _, _, hk, _ => by cases hk
 | .sl ks, d, v, hk, r => by
   simp only [DK.Rel] at r ⊢; obtain ⟨A, cap, h1, h2, h3⟩ := r; refine ⟨A, cap, h1, h2, fun hl => ?_⟩; obtain ⟨b, o, h4, h5⟩ := h3 hl; exact ⟨b, o, h4, fun i hi => aJ.Rel.reAr h hk (fun j v hv => by rw [tC h]; exact hv) (h5 i hi)⟩
 | .fp ks, d, v, hk, r => by
   simp only [DK.Rel] at r ⊢; obtain ⟨b, o, h1, h2⟩ := r; exact ⟨b, o, h1, aJ.Rel.reAr h hk (fun j v hv => by rw [tC h]; exact hv) h2⟩
 | .eh t k, d, v, hk, r => by
   simp only [DK.Rel] at r ⊢; obtain ⟨y, h1, h2⟩ := r; exact ⟨y, h1, DK.Rel.reAr h hk h2⟩
theorem aJ.Rel.reAr {fz fz' : Fz} (h : fz'.ob = fz.ob) : ∀ {ks : aJ} {row : Nat -> Dv} {cell cell' : Nat -> Option Value} {j : Nat}, ks.noAp = true -> (∀ j v, cell j = some v -> cell' j = some v) -> ks.Rel fz row cell j -> ks.Rel fz' row cell' j
 | .nil, _, _, _, _, _, _, _ => trivial
 | .cons k ks, _, _, _, _, hk, hc, r => by
   simp only [aJ.noAp, Bool.and_eq_true] at hk; simp only [aJ.Rel] at r ⊢; obtain ⟨⟨v, h1, h2⟩, h3⟩ := r; exact ⟨⟨v, hc _ _ h1, DK.Rel.reAr h hk.1 h2⟩, aJ.Rel.reAr h hk.2 hc h3⟩
end
mutual
def SV.noAp : SV -> Bool
 | .cg ks _ => ks.noAp
 | .gV ks _ => ks.noAp
 | .dC ks _ _ _ => ks.noAp
 | .pq .. => false
 | .fn _ a c => SV.noAps a && SV.noAps c
 | .eh _ x => x.noAp
 | .agg l => SV.noAps l
 | .fq l => SV.noAps l
 | _ => true
def SV.noAps : List SV -> Bool
 | [] => true
 | x :: l => x.noAp && SV.noAps l
end
mutual
theorem SV.Rel.reAr {env : Env} {ρ ρ' : af} (hp : ρ'.pl = ρ.pl) (h : ρ'.fz.ob = ρ.fz.ob) : ∀ {x : SV} {v : Value}, x.noAp = true -> x.Rel env ρ v -> x.Rel env ρ' v := by
 intro x v hx r; have e : ∀ n, ρ' n = ρ n := fun n => congrFun hp n; cases x with
 | ptr n o => simp only [SV.Rel, e] at r ⊢; exact r
 | sl n s lo l => simp only [SV.Rel, e] at r ⊢; exact r
 | map n => simp only [SV.Rel, e] at r ⊢; exact r
 | chan n => simp only [SV.Rel, e] at r ⊢; exact r
 | cg ks a => simp only [SV.Rel] at r ⊢; exact DK.Rel.reAr (k := .sl ks) h hx r
 | gV ks a => simp only [SV.Rel] at r ⊢; exact ⟨DK.Rel.reAr (k := .sl ks) h hx r.1, r.2⟩
 | dC ks a i j =>
   simp only [SV.Rel] at r ⊢; obtain ⟨b, o, h1, h2⟩ := r; exact ⟨b, o, h1, aJ.Rel.reAr h hx (fun j v hv => by rw [tC h]; exact hv) h2⟩
 | pq T i j => cases hx
 | fn f a c =>
   simp only [SV.noAp, Bool.and_eq_true] at hx; simp only [SV.Rel] at r ⊢; obtain ⟨p, q, h1, h2, h3⟩ := r; exact ⟨p, q, h1, SV.aD.reAr hp h hx.1 h2, SV.aD.reAr hp h hx.2 h3⟩
 | eh t x =>
   simp only [SV.Rel] at r ⊢; obtain ⟨y, h1, h2⟩ := r; exact ⟨y, h1, SV.Rel.reAr hp h hx h2⟩
 | agg l =>
   simp only [SV.Rel] at r ⊢; obtain ⟨y, h1, h2⟩ := r; exact ⟨y, h1, SV.aD.reAr hp h hx h2⟩
 | fq l =>
   simp only [SV.Rel] at r ⊢; obtain ⟨y, h1, h2⟩ := r; exact ⟨y, h1, SV.aD.reAr hp h hx h2⟩
 | _ => exact r
theorem SV.aD.reAr {env : Env} {ρ ρ' : af} (hp : ρ'.pl = ρ.pl) (h : ρ'.fz.ob = ρ.fz.ob) : ∀ {l : List SV} {vs : List Value}, SV.noAps l = true -> SV.aD env ρ l vs -> SV.aD env ρ' l vs := by
 intro l vs hx r; cases l with
 | nil => exact r
 | cons x l =>
   simp only [SV.noAps, Bool.and_eq_true] at hx; simp only [SV.aD] at r ⊢; obtain ⟨v, q, h1, h2, h3⟩ := r; exact ⟨v, q, h1, SV.Rel.reAr hp h hx.1 h2, SV.aD.reAr hp h hx.2 h3⟩
end
mutual
theorem SV.noAp_ren {τ : Nat -> Nat} {pr : Nat -> E} : ∀ {x : SV}, x.noAp = true -> (x.pZ τ pr).noAp = true := by
 intro x h; cases x with
 | fn f a c =>
   simp only [SV.noAp, Bool.and_eq_true] at h; simp only [SV.pZ, SV.noAp, Bool.and_eq_true]; exact ⟨SV.noAps_ren h.1, SV.noAps_ren h.2⟩
 | eh t x => exact SV.noAp_ren (x := x) h
 | agg l => exact SV.noAps_ren (l := l) h
 | fq l => exact SV.noAps_ren (l := l) h
 | _ => exact h
theorem SV.noAps_ren {τ : Nat -> Nat} {pr : Nat -> E} : ∀ {l : List SV}, SV.noAps l = true -> SV.noAps (SV.rens τ pr l) = true := by
 intro l h; cases l with
 | nil => rfl
 | cons x l =>
   simp only [SV.noAps, Bool.and_eq_true] at h; simp only [SV.rens, SV.noAps, Bool.and_eq_true]; exact ⟨SV.noAp_ren h.1, SV.noAps_ren h.2⟩
end
def kz (l : List (TypeId × aJ)) : aQ := l.map fun x => (dI x.1, .ar x.1 x.2 (.il 0))
theorem gE {l : List (TypeId × aJ)} {n : Nat} {o : aA} (h : bZ (kz l) n = some o) : ∃ T ks, n = dI T /\ o = .ar T ks (.il 0) := by
 obtain ⟨x, _, he⟩ := List.mem_map.1 (aj.C6 h); injection he with h1 h2; exact ⟨x.1, x.2, h1.symm, h2.symm⟩
theorem qK {env : Env} {A : Anchor} {fz : Nat -> Option Obj} {l : List (TypeId × aJ)} {w : World} (hb : Kept A w) (ha : A.ar = fun _ _ => none) (hf : ∀ b x, fz b = some x -> w.heap[b]? = some x) (ho : ∀ b x, fz b = some x -> A.K b -> A.F b) : az env A ⟨fun _ => none, ⟨fz, fun _ _ => none⟩⟩ (bg (kz l)) w := by
 refine ⟨hb, fun n o hn => ?_, fun m n o o' p q hm hn ho => ?_, ⟨fun n T ks e hn => ?_, (fun n T ks e i b hn h => by cases h), (fun n T ks e i b m o q hn h => by cases h), (fun n T ks e i n' T' ks' e' i' b hn hn' h => by cases h), (fun n T ks e i b hn h => by cases h), (fun T _ => by rw [ha])⟩, ⟨hf, (fun b x n o p hb hn ho hp => by cases hp), ho⟩⟩
 ·obtain ⟨T, ks, rfl, rfl⟩ := gE hn; rfl
 ·obtain ⟨T, ks, rfl, rfl⟩ := gE hm; cases ho
 ·obtain ⟨T', ks', rfl, h2⟩ := gE hn; injection h2 with h2 h3 h4; subst h4; exact ⟨(fun i b h => by cases h), fun i hi => absurd hi (Nat.not_lt_zero i)⟩
def nc (w : World) (ρ : af) : Anchor := ⟨w, fun k => k < w.heap.size, fun b => (ρ.fz b).isSome = true, fun _ _ => none, fun _ h => h⟩
theorem az.aef {env e' : Env} {w0 : Anchor} {ρ ρ' : af} {h h' : aL} {w w' : World} (H : az env w0 ρ h w) (H' : az e' (nc w ρ) ρ' h' w') (hle : ∀ b x, ρ.fz b = some x -> ρ'.fz b = some x) : az env w0 ⟨ρ.pl, ⟨ρ'.fz.ob, ρ.fz.ar⟩⟩ h w' := by
 have K : Kept (anchor w) w' := ⟨H'.below.os, H'.below.tape, H'.below.output, H'.below.size, H'.below.block⟩; have S := H.stay K; have le : af.le ρ ⟨ρ.pl, ⟨ρ'.fz.ob, ρ.fz.ar⟩⟩ := ⟨fun _ _ h => h, ⟨hle, fun _ _ _ h => h⟩⟩; have lt : ∀ {c x}, w.heap[c]? = some x -> c < w.heap.size := fun hx => (Array.getElem?_eq_some_iff.1 hx).1; have new : ∀ b x, ρ'.fz b = some x -> b < w.heap.size -> ∃ y, ρ.fz b = some y := fun b x hb hl => Option.isSome_iff_exists.1 (H'.fz.iM b x hb hl); refine ⟨S.below, fun n o hn => (S.bk n o hn).cU le (fun _ _ _ => rfl) (fun h0 _ => h0), S.inj, ?_, ⟨H'.fz.at_, fun b x n o p hb hn ho hp he => ?_, fun b x hb hk => ?_⟩⟩
 ·refine H.ar.cU le.fz rfl (fun _ _ _ _ h => h) (fun T ks e h => ⟨ks, e, h⟩) (fun n T ks e i c hm hc => K.block c (H.ar.own n T ks e i c hm hc).1) K.size (fun _ h => h) rfl (fun m o q hm ho hq => .inl ⟨m, o, q, hm, ho, hq, rfl⟩) (fun n T ks e i c hm hc h0 => ?_); show ρ'.fz c = none; cases hz : ρ'.fz c with
  | none => rfl
  | some x =>
    obtain ⟨y, hy⟩ := new c x hz (H.ar.own n T ks e i c hm hc).1; rw [h0] at hy; cases hy
 ·obtain ⟨q, bb, hq, _, hbb⟩ := (H.bk n o hn).place ho; have hp : ρ n = some p := hp; rw [hp] at hq; injection hq with hq; subst hq; obtain ⟨y, hy⟩ := new b x hb (by rw [<- he]; exact lt hbb)
  exact H.fz.free b y n o p hy hn ho hp he
 ·obtain ⟨y, hy⟩ := new b x hb (Nat.lt_of_lt_of_le (w0.lt b hk) H.below.size); exact H.fz.iM b y hy hk
structure cK where
 f : FuncId
 args : List SV
 params : List Nat
 aV : aa
 app : List SV -> Bool
 yn : List (TypeId × aJ) := []
 bz : List (E × Nat)
 kind : SV -> Option Nat
 out : Nat -> SV
 X : dF
 fuel : Nat
 np : Nat
 B2 : List (TypeId × aJ) := []
def DV (kd : TypeId -> Option aJ) : List Nat -> List SV -> Prog (List SV)
 | [], sl => .ret sl
 | n :: r, sl => do
   let o <- fe n
   let x <- aY (qL kd o) "call: a row that is no data"
   ta x.2.2.2.2
   iG n (kD x.2.1 x.2.2.2.1 x.1 x.2.2.1)
   DV kd r (SV.frzs ⟨n, x.2.1, x.2.2.2.1, x.1, x.2.2.1⟩ sl)
theorem Ca {env : Env} {kd : TypeId -> Option aJ} {A : Anchor} {w : World} {vs : List Value} : ∀ {l : List Nat} {sl sl' : List SV} {h h' : aL} {ρ : af}, (DV kd l sl).bx env h sl' h' -> az env A ρ h w -> SV.aD env ρ sl vs -> ∃ ρ', ρ.le ρ' /\ ρ'.pl = ρ.pl /\ az env A ρ' h' w /\ SV.aD env ρ' sl' vs
 | [], sl, sl', h, h', ρ, hr, hs, ha => by
   simp only [DV, aT] at hr; obtain ⟨rfl, rfl⟩ := hr; exact ⟨ρ, af.le_refl ρ, rfl, hs, ha⟩
 | n :: r, sl, sl', h, h', ρ, hr, hs, ha => by
   simp only [DV, run_bind, aU, ae, gB, bD] at hr; obtain ⟨o, _, ⟨ho, rfl⟩, x, _, ⟨hx, rfl⟩, _, _, ⟨ht, rfl⟩, _, _, rfl, hr⟩ := hr; obtain ⟨ks, sz, e, len, obs⟩ := x; obtain ⟨ρ1, hle, hpl, HS, hv, hleft⟩ := hs.qL ho hx ht; obtain ⟨ρ2, h2, hp2, hs2, ha2⟩ := Ca hr (az.G4 HS hleft) (SV.frzs_ok (F := ⟨n, sz, len, ks, e⟩) hle hv ha); exact ⟨ρ2, af.le_trans hle h2, hp2.trans hpl, hs2, ha2⟩
namespace cK
open aj (qZ jL M5 o5 FU j8)
structure jI (D : cK) (env e' : Env) : Prop where
 v : ∀ n, n ∉ D.params -> e'.v n = env.v n
 fn : e'.fn = env.fn
 val : e'.val = env.val
 mp : e'.mp = env.mp
 uf : e'.uf = env.uf
def bh (D : cK) (args : List SV) (nx : Nat) : Option (Prog (SV × Nat)) :=
 cond (D.app args) (some (do
  let as <- DV (CD D.yn) (od (wantL args D.args)) args
  let θ := unis D.params as D.args []
  aS ((θ.map (·.1)).all (fun p => qm p D.params) && SV.noAps D.args) "call: the function's own variables"
  let es <- aY (entCs (qZ θ) (fun _ => true) (fun _ => nx) as D.args) "call: arguments"
  ta (aj.nD (o5 (qZ θ) D.aV))
  ta es
  let ν <- FL (D.bz.map fun x => (x.1.aR (qZ θ), x.2))
  aS ((D.out ν).mL (fun _ => 0) (fun _ => 0) (fun _ => true) && (D.out ν).noAp) "call: result"
  return ((D.out ν).pZ (fun _ => 0) (qZ θ), nx))) none
def fU (D : cK) (nh : Nat) (q : bR) : Option (aa × List Ob) :=
 cond (fC q.vcs) (some (q.fs.take (q.fs.length - nh), [.e (.bl false)])) <|
 match D.kind q.r with
 | some ν =>
   match lf (fun n q => q.JW (CD D.yn) 6 n) (od (wantV q.r (D.out ν))) { q with fr := ⟨[q.r], []⟩ } with
   | some (q', ob) =>
     match q'.fr.sl with
     | [r'] =>
       match aj.ez D.bz ν, entC E.v (fun _ => true) (fun _ => q'.nx) r' (D.out ν) with
       | some xs, some es => some (q.fs.take (q.fs.length - nh), aj.jG q.fs (xs ++ (q.vcs ++ (ob ++ es))))
       | _, _ => none
     | _ => none
   | none => none
 | none => none
def lM (D : cK) (nh : Nat) : List bR -> Option (List (aa × List Ob))
 | [] => some []
 | q :: r =>
   match D.fU nh q, D.lM nh r with
   | some x, some l => some (x :: l)
   | _, _ => none
def jC (P : Program) (D : cK) : Option (List (aa × List Ob)) :=
 match explore P D.X D.fuel (.fn false D.f D.args) (kz D.B2) 0 D.np D.aV with
 | .ok l => D.lM D.aV.length l
 | .error _ => none
theorem kJ {D : cK} {nh : Nat} : ∀ {l : List bR} {L : List (aa × List Ob)}, D.lM nh l = some L -> ∀ q ∈ l, ∃ x ∈ L, D.fU nh q = some x
 | [], _, _, q, hq => by cases hq
 | a :: r, L, h, q, hq => by
   simp only [lM] at h; split at h
   ·rename_i x l hx hl; injection h with h; subst h; rcases List.mem_cons.1 hq with rfl | hq
    ·exact ⟨x, List.mem_cons_self .., hx⟩
    ·obtain ⟨y, hy, h2⟩ := kJ hl q hq; exact ⟨y, List.mem_cons_of_mem _ hy, h2⟩
   ·cases h
def LF (P : Program) (D : cK) (e' : Env) : Prop :=
 ∀ (w : World) (ρ1 : af) (vs : List Value), az e' (nc w ρ1) ⟨fun _ => none, ⟨ρ1.fz.ob, fun _ _ => none⟩⟩ (bg (kz D.B2)) w -> SV.aD e' ⟨fun _ => none, ⟨ρ1.fz.ob, fun _ _ => none⟩⟩ D.args vs ->
  Calls P D.f vs.toArray w fun e w' => ∃ m xs ρ' v nx' e2 hh, e = .returned v /\ aj.ez D.bz m = some xs /\ cL e' xs /\ af.le ⟨fun _ => none, ⟨ρ1.fz.ob, fun _ _ => none⟩⟩ ρ' /\ az e2 (nc w ρ1) ρ' hh w' /\
   (∀ n p, ρ' n = some p -> n < nx') /\ (D.out m).Rel e' (ρ'.re fun _ => nx') v
theorem vG {P : Program} (hP : Plain P) (hM : P.follows .mixedOrders = true) {D : cK} {L : List (aa × List Ob)} (n5 : D.jC P = some L) {e' : Env}
    (hX : ∀ A, eJ P e' A (D.X.cR P)) (hent : D.aV.aB e') (cJ : br e' L) : LF P D e' := by
 intro w ρ1 vs h0 hargs; unfold jC at n5; cases he : explore P D.X D.fuel (.fn false D.f D.args) (kz D.B2) 0 D.np D.aV with
 | error m => rw [he] at n5; cases n5
 | ok l =>
   rw [he] at n5; have take : ∀ (q : bR), q.fs.aB e' -> aa.aB e' (q.fs.take (q.fs.length - D.aV.length)) := fun q hq e t hm => hq e t (List.mem_of_mem_take hm)
   have leaf : ∀ q ∈ l, q.fs.aB e' -> ∃ m q' ob r' xs es, lf (fun n q => q.JW (CD D.yn) 6 n) (od (wantV q.r (D.out m))) { q with fr := ⟨[q.r], []⟩ } = some (q', ob) /\ q'.fr.sl = [r'] /\ aj.ez D.bz m = some xs /\
       entC E.v (fun _ => true) (fun _ => q'.nx) r' (D.out m) = some es /\ cL e' (xs ++ (q.vcs ++ (ob ++ es))) := fun q hq hf => by
    obtain ⟨x, hx, h1⟩ := kJ n5 q hq; have hax := gW cJ x hx; unfold fU at h1; cases hdd : fC q.vcs with
    | true =>
      rw [hdd, cond_true] at h1; injection h1 with h1; subst h1; exact (gL (vcs := [.e (.bl false)]) rfl (hax (take q hf))).elim
    | false =>
    rw [hdd, cond_false] at h1; split at h1
    ·rename_i m hm; split at h1
     ·rename_i q' ob hfr; split at h1
      ·rename_i r' hsl; split at h1
       ·rename_i xs es hxs hes; injection h1 with h1; subst h1; exact ⟨m, q', ob, r', xs, es, hfr, hsl, hxs, hes, aj.gS hf (hax (take q hf))⟩
       ·cases h1
      ·cases h1
     ·cases h1
    ·cases h1
   have hc := mN hP hM (hX _) he hent (fun q hq hf e he => by
    obtain ⟨m, q', ob, r', xs, es, _, _, _, _, ht⟩ := leaf q hq hf
    exact ht e (List.mem_append_right _ (List.mem_append_left _ he))) h0 (fun n p hp => by cases hp) hargs
   refine hc.mono fun e w' hq => ?_; obtain ⟨q, hq, hqf, ρ', v, rfl, hle', HS, hnx, hv⟩ := hq; obtain ⟨m, q', ob, r', xs, es', hfr, hsl, hxs, hes', ht⟩ := leaf q hq hqf; obtain ⟨t1, t2⟩ := aM.1 ht; obtain ⟨_, t3⟩ := aM.1 t2; obtain ⟨t4, t5⟩ := aM.1 t3; have hself : cY e' e' E.v (fun _ => true) := ⟨fun _ => rfl, rfl, fun _ _ _ => rfl, rfl, rfl⟩; have hth := nt (env := e') (fun n q q' obs => bR.Bi) hfr t4; obtain ⟨ρ2, hle2, hs2⟩ := hth.sat (nc w ρ1) ρ' { tmps := #[v], defers := [] } w' ⟨HS, ⟨v, [], rfl, hv, rfl⟩, eZ.nil, hnx⟩; have hv2 := hs2.sl; rw [hsl] at hv2; obtain ⟨v2, l2, e2, hv2, _⟩ := hv2; injection e2 with e2 _; subst e2; have g1 := SV.fK _ _ _ (entC_ok (σ := fun _ => q'.nx) hself hes' t5) hv2; exact ⟨m, xs, ρ2, _, q'.nx, _, _, rfl, hxs, t1, af.le_trans hle' hle2, hs2.hs, hs2.nx, g1⟩
theorem w5 {P : Program} {D : cK} {env : Env} (hS : ∀ e', jI D env e' -> D.aV.aB e' -> LF P D e') : eV P env D.f D.bh := by
 intro w0 args nx p h r h' nx' hp hr; unfold bh at hp; cases happ : D.app args with
 | false => rw [happ] at hp; cases hp
 | true =>
   rw [happ] at hp; simp only [cond_true, Option.some.injEq] at hp; subst hp; simp only [run_bind, aq, ae, gB] at hr; obtain ⟨as, h1, hfr, _, _, ⟨hθ, rfl⟩, es, _, ⟨hes, rfl⟩, _, _, ⟨htf, rfl⟩, _, _, ⟨htes, rfl⟩, ν, h2, hdec, _, _, ⟨hren, rfl⟩, hret⟩ := hr; obtain rfl := td hdec; rw [run_pure] at hret; obtain ⟨hret, rfl⟩ := hret; simp only [Prod.mk.injEq] at hret; obtain ⟨rfl, rfl⟩ := hret; rw [Bool.and_eq_true] at hθ hren; obtain ⟨hθ, hnoA⟩ := hθ; obtain ⟨hren, hnoO⟩ := hren; refine ⟨Nat.le_refl _, fun ρ w vs hs hn ha => ?_⟩; generalize hθd : unis D.params as D.args [] = θ at *; have hpθ : ∀ p ∈ θ.map (·.1), p ∈ D.params := fun p hp => cQ.1 (List.all_eq_true.1 hθ p hp); have hn1 := M5 env θ
   have hlike : jI D env (jL env θ) := ⟨fun n hn => by
    show (qZ θ n).den env = env.v n
    rw [FU fun hm => hn (hpθ n hm)]; rfl, rfl, rfl, rfl, rfl⟩
   have hent : D.aV.aB (jL env θ) := j8 hn1 (aj.j9 htf); obtain ⟨ρ1, hle1, hpl1, hs1, ha1⟩ := Ca hfr hs ha; have hn1' : ∀ n p, ρ1 n = some p -> n < nx := fun n p hp => hn n p (by rw [<- show ρ1 n = ρ n from congrFun hpl1 n]; exact hp)
   have hnone : ∀ (ρ : af) (m : Nat), (∀ n p, ρ n = some p -> n < m) -> ρ m = none := fun ρ m hm => by
    cases hz : ρ m with
    | none => rfl
    | some p => exact absurd (hm m p hz) (Nat.lt_irrefl m)
   have hargs : SV.aD (jL env θ) ⟨fun _ => none, ⟨ρ1.fz.ob, fun _ _ => none⟩⟩ D.args vs := by
    refine SV.aD.reAr (ρ := ⟨fun _ => none, ρ1.fz⟩) (ρ' := ⟨fun _ => none, ⟨ρ1.fz.ob, fun _ _ => none⟩⟩) rfl rfl hnoA ?_; show SV.aD (jL env θ) ⟨fun _ => none, ρ1.fz⟩ D.args vs; have := SV.ents_ok env (jL env θ) (fun _ => nx) (entCs_ok (σ := fun _ => nx) hn1 hes htes) ha1
    have e : (ρ1.re fun _ => nx) = ⟨fun _ => none, ρ1.fz⟩ := by
     show af.mk _ _ = _
     congr 1
     funext k
     exact hnone ρ1 nx hn1'
    rw [<- e]; exact this
   have h0 : az (jL env θ) (nc w ρ1) ⟨fun _ => none, ⟨ρ1.fz.ob, fun _ _ => none⟩⟩ (bg (kz D.B2)) w :=
    qK ⟨rfl, rfl, rfl, Nat.le_refl _, fun _ _ => rfl⟩ rfl hs1.fz.at_ (fun b x hb _ => by show (ρ1.fz b).isSome = true; rw [show ρ1.fz b = some x from hb]; rfl)
   refine (hS _ hlike hent w ρ1 vs h0 hargs).mono fun e w' hq => ?_; obtain ⟨m, xs, ρ', v, nq, e2, hh, rfl, hxs, t1, hle', HS, hnx, g1⟩ := hq; obtain rfl := BB hn1 hdec hxs t1; have g2 := SV.fK _ _ _ (SV.pL (σ := fun _ => 0) (τ := fun _ => 0) hn1 hren) g1; have g3 := SV.Rel.reAr (ρ := (ρ'.re fun _ => nq).re fun _ => 0) (ρ' := ⟨((ρ'.re fun _ => nq).re fun _ => 0).pl, ⟨ρ'.fz.ob, ρ1.fz.ar⟩⟩) rfl rfl (SV.noAp_ren hnoO) g2; have hm : af.le ⟨((ρ'.re fun _ => nq).re fun _ => 0).pl, ⟨ρ'.fz.ob, ρ1.fz.ar⟩⟩ ⟨ρ.pl, ⟨ρ'.fz.ob, ρ1.fz.ar⟩⟩ := ⟨fun k p hk => absurd (hnx nq p hk) (Nat.lt_irrefl _), Fz.le_refl _⟩; refine ⟨⟨ρ.pl, ⟨ρ'.fz.ob, ρ1.fz.ar⟩⟩, v, rfl, ⟨fun _ _ h => h, ⟨fun b x hb => hle'.fz b x (hle1.fz b x hb), hle1.fz.ar⟩⟩, ?_, hn, g3.mono hm⟩; have := hs1.aef HS hle'.fz; rw [hpl1] at this; exact this
theorem Vk {P : Program} (hP : Plain P) (hM : P.follows .mixedOrders = true) {D : cK} {env : Env} {L : List (aa × List Ob)} (n5 : D.jC P = some L)
    (hX : ∀ e' A, jI D env e' -> eJ P e' A (D.X.cR P)) (hL : ∀ e', jI D env e' -> D.aV.aB e' -> br e' L) : eV P env D.f D.bh :=
 w5 fun e' he hent => vG hP hM n5 (fun A => hX e' A he) hent (hL e' he hent)
def yx (e : Env) (G : Nat) (d : Dv) : Env := { e with v := fun k => if k = G then d else e.v k }
theorem DC (e : Env) (G : Nat) (d : Dv) : CH G e (yx e G d) := ⟨fun m hm => by simp only [yx, if_neg hm], rfl, rfl, rfl, rfl⟩
theorem _root_.Go.Sx.CH.symm {n : Nat} {e e' : Env} (h : CH n e e') : CH n e' e := ⟨fun m hm => (h.v m hm).symm, h.fn.symm, h.val.symm, h.mp.symm, h.uf.symm⟩
def J2 (G : Nat) (fs : aa) : Bool := fs.all fun x => x.1.dt G
theorem K6 {G : Nat} {e e' : Env} (h : CH G e e') {fs : aa} (hn : J2 G fs = true) (hf : fs.aB e) : fs.aB e' := fun x b hm => by
 rw [E.bE h (List.all_eq_true.1 hn _ hm)]; exact hf x b hm
theorem tR {G : Nat} {e e' : Env} (h : CH G e e') : ∀ {l : List (E × Nat)} {m : Nat} {xs : List Ob}, (l.all fun x => x.1.dt G) = true -> aj.ez l m = some xs -> cL e xs -> cL e' xs
 | [], _, _, _, hx, _ => by cases hx
 | (c, ν) :: r, m, xs, hn, hx, ht => by
   simp only [List.all_cons, Bool.and_eq_true] at hn; simp only [aj.ez] at hx; cases hb : Nat.beq ν m with
   | true =>
     rw [hb] at hx; simp only [cond_true, Option.some.injEq] at hx; subst hx; intro x hx; cases hs : c.same (.bl true) with
     | true => rw [hs] at hx; cases hx
     | false =>
       rw [hs] at hx ht; rw [List.mem_singleton.1 hx]; show (c.den e').B = true; rw [E.bE h hn.1]; exact ht _ (List.mem_singleton.2 rfl)
   | false =>
     rw [hb] at hx; simp only [cond_false, Option.map_eq_some_iff] at hx; obtain ⟨ys, h1, rfl⟩ := hx; intro x hx; rcases List.mem_cons.1 hx with rfl | hx
     ·have := ht _ (List.mem_cons_self ..); show ((lS c).den e').B = true; have hc : ((lS c).den e).B = true := this; rw [ij] at hc ⊢; rw [E.bE h hn.1]; exact hc
     ·exact tR h hn.2 h1 (fun x hx => ht x (List.mem_cons_of_mem _ hx)) x hx
theorem K3 {P : Program} {D : cK} {G : Nat} {e e' : Env} (h : CH G e e') (ha : SV.noVs G D.args = true) (hx : (D.bz.all fun x => x.1.dt G) = true) (ho : ∀ m, (D.out m).dt G = true) (hs : LF P D e) : LF P D e' := by
 intro w ρ1 vs h0 hargs; have h1 : az e (nc w ρ1) ⟨fun _ => none, ⟨ρ1.fz.ob, fun _ _ => none⟩⟩ (bg (kz D.B2)) w := qK h0.below rfl h0.fz.at_ h0.fz.iM; refine (hs w ρ1 vs h1 (by rw [<- SV.rels_noV h ha]; exact hargs)).mono fun x w' hq => ?_
 obtain ⟨m, xs, ρ', v, nq, e2, hh, rfl, hxs, t1, hle', HS, hnx, g1⟩ := hq; exact ⟨m, xs, ρ', v, nq, e2, hh, rfl, hxs, tR h hx hxs t1, hle', HS, hnx, by rw [SV.pw h (ho m)]; exact g1⟩
def Hw (D : cK) (G : Nat) (sz : E) (X : dF) : cK := { D with aV := (.o2 .aX (.v G) sz, true) :: D.aV, X := X }
def AZ (D : cK) (G : Nat) (sz : E) : cK := { D with aV := (.o2 .lt sz (.v G), true) :: D.aV }
structure zr (D : cK) (G : Nat) (env e' : Env) : Prop where
 v : ∀ n, n ∉ D.params -> n ≠ G -> e'.v n = env.v n
 fn : e'.fn = env.fn
 val : e'.val = env.val
 mp : e'.mp = env.mp
 uf : e'.uf = env.uf
theorem Xg {P : Program} (hP : Plain P) (hM : P.follows .mixedOrders = true) {D : cK} {G : Nat} {sz : E} {X : dF} {env : Env} {L : List (aa × List Ob)} (n5 : (Hw D G sz X).jC P = some L) (hG : qm G D.params = false)
    (hno : (SV.noVs G D.args && (D.bz.all fun x => x.1.dt G) && J2 G D.aV && sz.dt G) = true) (hout : ∀ m, (D.out m).dt G = true)
    (hX : ∀ e' A, zr D G env e' -> eV P e' D.f (AZ D G sz).bh -> eJ P e' A (X.cR P))
    (hL : ∀ e', zr D G env e' -> (Hw D G sz X).aV.aB e' -> br e' L) (hnn : ∀ e', zr D G env e' -> D.aV.aB e' -> 0 <= (sz.den e').I) : eV P env D.f D.bh := by
 simp only [Bool.and_eq_true] at hno; obtain ⟨⟨⟨n1, n2⟩, n3⟩, n4⟩ := hno; have hG' : G ∉ D.params := fun h => by rw [cQ.2 h] at hG; cases hG
 have key : ∀ n e', zr D G env e' -> D.aV.aB e' -> (sz.den e').I.toNat < n -> LF P D e' := by
  intro n
  induction n with
  | zero => intro e' _ _ h; omega
  | succ n ih =>
    intro e' he hent cW; have hb := DC e' G (.i (sz.den e').I)
    have hent1 : (Hw D G sz X).aV.aB (yx e' G (.i (sz.den e').I)) := by
     refine aa.fh ?_ (K6 hb n3 hent); show (((yx e' G (.i (sz.den e').I)).v G).I == (sz.den (yx e' G (.i (sz.den e').I))).I) = true; rw [E.bE hb n4]; simp [yx, Dv.I]
    have he1 : zr D G env (yx e' G (.i (sz.den e').I)) := ⟨fun k hk hk2 => by
     show (if k = G then _ else e'.v k) = _
     rw [if_neg hk2]; exact he.v k hk hk2, he.fn, he.val, he.mp, he.uf⟩
    have hfn : eV P (yx e' G (.i (sz.den e').I)) D.f (AZ D G sz).bh := by
     refine w5 (D := AZ D G sz) fun e2 h2 hent2 => ?_; have hv : e2.v G = .i (sz.den e').I := by rw [h2.v G hG']; simp [yx]
     have h3 : ((E.o2 .lt sz (.v G)).den e2).B = true := hent2 _ _ (List.mem_cons_self ..); have h4 : D.aV.aB e2 := fun x b hm => hent2 x b (List.mem_cons_of_mem _ hm)
     have h5 : (sz.den e2).I < (sz.den e').I := by
      have h3 : decide ((sz.den e2).I < (e2.v G).I) = true := h3; rw [hv] at h3; exact of_decide_eq_true h3
     have hU2 : zr D G env e2 := ⟨fun k hk hk2 => by rw [h2.v k hk]; exact he1.v k hk hk2, h2.fn.trans he1.fn, h2.val.trans he1.val, h2.mp.trans he1.mp, h2.uf.trans he1.uf⟩
     have h6 := hnn e2 hU2 h4; exact ih e2 hU2 h4 (by omega)
    have hs := vG hP hM n5 (fun A => hX _ A he1 hfn) hent1 (hL _ he1 hent1); exact K3 (D := D) hb.symm n1 n2 hout hs
 exact w5 fun e' he hent => key _ e' ⟨fun n hn _ => he.v n hn, he.fn, he.val, he.mp, he.uf⟩ hent (Nat.lt_succ_self _)
end cK
end Go.Sx
