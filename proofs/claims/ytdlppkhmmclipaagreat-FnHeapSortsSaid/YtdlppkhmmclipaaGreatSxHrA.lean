/-
  A STORE WHOSE OBJECTS EXPIRE: the model's functions, as data.
-/
import Derived.Test.YtdlppkhmmclipaaGreatSxMLoopH
import Derived.Shelf.Sort.Plain
import Derived.Sort.KeysCollected
import Derived.Test.YtdlppkhmmclipaaGreatChecked
import Derived.Sort.Walk0
namespace Go.Sx
open Go.RowKit Go.Sort Go.Proofs
set_option linter.unusedVariables false
set_option linter.unusedSimpArgs false
def jl : aJ := .cons .str .nil
def jx (r : List Dv) : List UInt8 := (r.headD (.i 0)).S.data.toList
def LH (b : List UInt8) : List Dv := [.s ⟨b.toArray⟩]
def eL (l : List (List Dv)) : List (List Dv) := ((l.map jx).mergeSort leB).map LH
theorem yU {l : List (List Dv)} : (eL l).length = l.length := by simp [eL]
theorem Gm {l l' : List (List Dv)} (h : l.Perm l') : eL l = eL l' := by
 unfold eL; rw [mergeSort_of_perm (h.map jx)]
def sh (c : Nat) (e : E) : E := .uf c (.o2 .bT e (.il 0))
def HR (c : Nat) (n : Nat) (T : TypeId) (len e : E) (nx : Nat) : Prog (SV × Nat) := do
 jX (jK .aX len (fZ .ab e))
 jX (kY len (.il 4611686018427387903))
 iG n (.row T 1 len [.tc .str (sh c e) 0] [])
 return (.fq [], nx)
def zG (c : Nat) (args : List SV) (nx : Nat) : Option (Prog (SV × Nat)) :=
 match args with
 | [.cr] => some (.ret (.fq [], nx))
 | [.sl n 1 (.il 0) len] => some (do
   let o <- fe n
   match o with
   | .rA T (.cons .str .nil) e => HR c n T len e nx
   | .row T 1 rl [.tc .str e 0] [] => do
     jX (jK .aX rl (fZ .ab e))
     HR c n T len e nx
   | _ => .fail "sort: of what")
 | _ => none
def NN (f : FuncId) : cK := { f := f, args := [.cg jl (.il 0)], params := [], aV := [], app := fun _ => true, bz := [(.bl true, 0)], kind := fun _ => some 0, out := fun _ => .fq [], X := dF.none, fuel := 300, np := 20 }
theorem w9 {P : Program} (hP : Plain P) (hM : P.follows .mixedOrders = true) {f : FuncId} (ho : (NN f).jC P = some [([], [])]) (w : World) (A : Option Addr) (cap : Nat) :
    Calls P f #[.slice A 0 cap] w fun e w' => e = .returned (.tuple #[]) /\ Kept (anchor w) w' := by
 have h := cK.vG hP hM ho (e' := pF fun _ _ => .i 0) (fun A => cB) ib (by simp only [al, av, and_true]; intro _ y hy; cases hy)
 have h0 : az (pF fun _ _ => .i 0) (nc w ⟨fun _ => none, ⟨fun _ => none, fun _ _ => none⟩⟩) ⟨fun _ => none, ⟨fun _ => none, fun _ _ => none⟩⟩ (bg (kz [])) w :=
  qK ⟨rfl, rfl, rfl, Nat.le_refl _, fun _ _ => rfl⟩ rfl (fun b x h => by cases h) (fun b x h => by cases h)
 refine (h w _ [.slice A 0 cap] h0 ⟨_, [], rfl, ⟨A, cap, rfl, Nat.zero_le _, fun h => absurd h (Nat.lt_irrefl 0)⟩, rfl⟩).mono fun e w' hq => ?_; obtain ⟨m, xs, ρ', v, nq, e2, hh, rfl, hxs, t1, hle', HS, hnx, g1⟩ := hq; obtain ⟨x, rfl, hx⟩ := g1; have hx : x = [] := hx; subst hx; exact ⟨rfl, ⟨HS.below.os, HS.below.tape, HS.below.output, HS.below.size, HS.below.block⟩⟩
theorem Ah {w : World} {b : Nat} {cs : Array Value} {T : TypeId} {fr : Nat × Nat} (h : w.heap[b]? = some (.cells cs T fr)) (f : Array Value -> Array Value) : mapBlock w b f = w.bd b (.cells (f cs) T fr) := by
 have cW := (Array.getElem?_eq_some_iff.1 h).1; unfold mapBlock World.bd
 congr 1
 apply Array.ext_getElem?
 intro k; rw [Array.getElem?_modify]
 by_cases hk : b = k
 ·subst hk; rw [if_pos rfl, h, Array.getElem?_setIfInBounds, if_pos rfl, if_pos cW]; rfl
 ·simp [hk]
theorem rK {d : Array (List UInt8)} {cs : Array Value} (h : d.size <= cs.size) : (Go.Sort.putCells encStr 0 d cs).toList = (d.toList.map encStr) ++ cs.toList.drop d.size := by
 apply List.ext_getElem?
 intro k; unfold Go.Sort.putCells; rw [Array.getElem?_toList, Array.getElem?_mapIdx]
 by_cases hk : k < d.size
 ·have hkc : k < cs.size := by omega
  rw [List.getElem?_append_left (by simpa using hk)]
  simp [hk, hkc, Array.getElem?_eq_getElem hkc]
 ·rw [List.getElem?_append_right (by simp; omega)]
  simp only [List.length_map, Array.length_toList, List.getElem?_drop]; rw [show d.size + (k - d.size) = k by omega, Array.getElem?_toList]
  cases hc : cs[k]? with
  | none => simp
  | some v => simp [hk]
section
variable {P : Program} {env : Env} {A : Anchor} {ρ : af} {h : aL} {w : World}
theorem az.sorted (H : az env A ρ h w) {n : Nat} {T : TypeId} {e : E} {c : Nat} {len : E} {p : Pl} {l : List (List Dv)} {cs : Array Value} {o : aA} (hn : ay h n = some o) (ho : o.owner = true) (hp : ρ n = some p) (hK : ¬ A.K p.block) (hb0 : p.base = 0) (hni : p.nil = false)
    (hw : w.heap[p.block]? = some (.cells cs T (0, 0))) (hbag : vX jl ρ.fz (e.den env) p l cs) (hlen : (len.den env).I = ((e.den env).T.length : Int)) (hu : ∀ d, env.uf c d = .t (eL (d.row.headD (.i 0)).T)) (k : Nat) (os : Array Obj) :
    az env A ρ (bf h n (.row T 1 len [.tc .str (sh c e) 0] [])) (grow (putRow encStr (Sort.ahead w k) p.block 0 ((l.map jx).mergeSort leB).toArray) os) := by
 have H1 : az env A ρ h (Sort.ahead w k) := H.drawn rfl rfl rfl rfl; have hw1 : (Sort.ahead w k).heap[p.block]? = some (.cells cs T (0, 0)) := hw; obtain ⟨b1, b2, b3, b4⟩ := hbag; have hd1 : jl.len = 1 := rfl; rw [hd1, Nat.mul_one] at b2; have hsl : ((l.map jx).mergeSort leB).toArray.size = l.length := by simp
 have hsort : eL (e.den env).T = ((l.map jx).mergeSort leB).map LH := by rw [<- Gm b1]; rfl
 have hcells := rK (d := ((l.map jx).mergeSort leB).toArray) (cs := cs) (by rw [hsl]; omega)
 have hpr : putRow encStr (Sort.ahead w k) p.block 0 ((l.map jx).mergeSort leB).toArray = (Sort.ahead w k).bd p.block (.cells (Go.Sort.putCells encStr 0 ((l.map jx).mergeSort leB).toArray cs) T (0, 0)) := Ah hw1 _
 have hden : ((sh c e).den env) = .t (eL (e.den env).T) := by
  show env.uf c _ = _; rw [hu]; rfl
 have hlN : (len.den env).I.toNat = l.length := by rw [hlen, Int.toNat_natCast, b1.length_eq]
 have H2 : az env A ρ (bf h n (.row T 1 len [.tc .str (sh c e) 0] [])) ((Sort.ahead w k).bd p.block (.cells (Go.Sort.putCells encStr 0 ((l.map jx).mergeSort leB).toArray cs) T (0, 0))) := by
  refine H1.update hn ho hp rfl ⟨p, ((l.map jx).mergeSort leB).map encStr, cs.toList.drop l.length, hp, hK, hb0, hni, ⟨_, [], (List.append_nil _).symm, by rw [hlN]; simp, fun i hi j bY hc => ?_, rfl, (fun t ht => by cases ht), Nat.le_refl _⟩, ?_, ?_⟩
  ·rw [hlN] at hi; cases j with
   | succ j => simp at hc
   | zero =>
     simp only [List.getElem?_cons_zero, Option.some.injEq] at hc; subst hc; have hil : i < ((l.map jx).mergeSort leB).length := by simpa using hi
     refine ⟨encStr ((l.map jx).mergeSort leB)[i], by rw [Nat.mul_one, Nat.add_zero, List.getElem?_map, List.getElem?_eq_getElem hil]; rfl, ?_⟩
     rw [ch.at, cM]; simp only [DK.Rel, E.den, O2.den]
     have e1 : (((sh c e).den env).at ((i : Int).toNat) 0) = .s ⟨((l.map jx).mergeSort leB)[i].toArray⟩ := by
      rw [hden, hsort]; unfold Dv.at; simp only [Dv.T, Int.toNat_natCast, List.getElem?_map, List.getElem?_eq_getElem hil, Option.map_some, Option.getD_some, LH, List.getElem?_cons_zero]
     rw [show (Dv.i (i : Int)).I.toNat = ((i : Int).toNat) from rfl, e1]; rfl
  ·simp only [List.length_append, List.length_map, List.length_mergeSort, List.length_drop, Array.length_toList]; omega
  ·have := bq (w := Sort.ahead w k) (o := .cells (Go.Sort.putCells encStr 0 ((l.map jx).mergeSort leB).toArray cs) T (0, 0)) hw1; rw [this, <- hsl]
   congr 1
   show Obj.cells _ T (0, 0) = _
   congr 1
   rw [<- Array.toList_inj, hcells]
 rw [hpr]; refine H2.stay ⟨rfl, rfl, rfl, ?_, fun b hb => ?_⟩
 ·simp [grow, anchor]
 ·show (_ ++ os)[b]? = _; exact Array.getElem?_append_left hb
end
theorem I2 (w : World) (b : Nat) : putRow encStr w b 0 (([] : List (List UInt8)).toArray) = w := by
 refine mapBlock_id w b _ fun c e fr _ => ?_; rw [<- Array.toList_inj, rK (Nat.zero_le _)]; rfl
theorem Rn {P : Program} (hP : Plain P) (hM : P.follows .mixedOrders = true) {f : FuncId} (ho : (NN f).jC P = some [([], [])]) {env : Env} {c : Nat}
    (hs : ∀ (blk off cap : Nat) (ss : List (List UInt8)) (w : World), Holds encStr w blk off ss.toArray -> blk < w.heap.size -> ss.length < 4611686018427387904 ->
     Calls P f #[.slice (some ⟨blk, off, none⟩) ss.length cap] w fun e w' => e = .returned (.tuple #[]) /\ ∃ n os, w' = grow (putRow encStr (Sort.ahead w n) blk off (ss.mergeSort leB).toArray) os)
    (hu : ∀ d, env.uf c d = .t (eL (d.row.headD (.i 0)).T)) : eV P env f (zG c) := by
 intro w0 args nx p h r h' nx' hp hr; unfold zG at hp; split at hp
 ·injection hp with hp; subst hp; simp only [aT, Prod.mk.injEq] at hr; obtain ⟨⟨rfl, rfl⟩, rfl⟩ := hr; refine ⟨Nat.le_refl _, fun ρ w vs H hn ha => ?_⟩; simp only [SV.aD, SV.Rel] at ha; obtain ⟨v, q, rfl, rfl, rfl⟩ := ha; refine (w9 hP hM ho w none 0).mono fun e w' hq => ?_; obtain ⟨rfl, K⟩ := hq; exact ⟨ρ, _, rfl, af.le_refl ρ, H.stay K, hn, [], rfl, rfl⟩
 ·rename_i n len; injection hp with hp; subst hp
  have main : ∀ (T : TypeId) (e : E) (o : aA), ay h n = some o -> o.owner = true -> (∀ {A : Anchor} {ρ : af} {w : World}, az env A ρ h w -> (aA.rA T jl e).Rel env A ρ n w) -> (HR c n T len e nx).bx env h (r, nx') h' ->
      nx <= nx' /\ ∀ ρ w vs, az env w0 ρ h w -> (∀ n p, ρ n = some p -> n < nx) -> SV.aD env ρ [.sl n 1 (.il 0) len] vs ->
       Calls P f vs.toArray w fun e w' => ∃ ρ' v, e = .returned v /\ ρ.le ρ' /\ az env w0 ρ' h' w' /\ (∀ n p, ρ' n = some p -> n < nx') /\ r.Rel env ρ' v := by
   intro T e o ay ho' hbag hrun; simp only [HR, run_bind, bU, bD, run_pure, Prod.mk.injEq] at hrun; obtain ⟨_, _, ⟨h1, rfl⟩, _, _, ⟨h2, rfl⟩, _, _, rfl, ⟨rfl, rfl⟩, rfl⟩ := hrun
   have hlen : (len.den env).I = ((e.den env).T.length : Int) := by
    rw [bn] at h1; have h1 : ((len.den env).I == ((fZ .ab e).den env).I) = true := h1; rw [bA] at h1; exact eq_of_beq h1
   have hmax : (len.den env).I <= 4611686018427387903 := by
    rw [CG, dS] at h2; exact of_decide_eq_true h2
   refine ⟨Nat.le_refl _, fun ρ w vs H hn ha => ?_⟩; obtain ⟨p, l, cs, q1, q2, q3, q4, q5, q6⟩ := hbag H; simp only [SV.aD, SV.Rel] at ha; obtain ⟨v, q, rfl, ⟨p', A', g1, rfl, g2, g3, g4, g5⟩, rfl⟩ := ha; rw [q1] at g1; injection g1 with g1; subst g1; have hz0 : ((E.il 0).den env).I.toNat = 0 := rfl; rw [hz0] at g3 g4 ⊢; have hlN : (len.den env).I.toNat = l.length := by rw [hlen, Int.toNat_natCast, q6.1.length_eq]
   have put := fun k os => H.sorted (n := n) (c := c) (len := len) ay ho' q1 q2 q3 q4 q5 q6 hlen hu k os; rcases Nat.eq_zero_or_pos l.length with h0 | h0
   ·rw [hlN, h0]; refine (w9 hP hM ho w A' (p.cap - 0)).mono fun e w' hq => ?_; obtain ⟨rfl, K⟩ := hq; have H0 := put 0 #[]; have hl0 : l = [] := List.length_eq_zero_iff.1 h0; rw [hl0] at H0; simp only [List.map_nil, List.mergeSort_nil, grow_empty, ahead_zero, I2] at H0; exact ⟨ρ, _, rfl, af.le_refl ρ, H0.stay K, hn, [], rfl, rfl⟩
   ·have hcap := q6.2.2.1; have hA := g3 (by omega)
    rw [q3, Nat.zero_mul] at hA; subst hA; have hd1 : jl.len = 1 := rfl
    have hH : Holds encStr w p.block 0 (l.map jx).toArray := by
     intro j hj; have hjl : j < l.length := by simpa using hj
     have := q6.2.2.2 j hjl; simp only [jl, aJ.Rel, DK.Rel, aJ.len] at this; obtain ⟨⟨v, v1, v2⟩, _⟩ := this; simp only [Nat.zero_add, Nat.mul_one, Nat.add_zero] at v1 v2; constructor
     ·show (match w.heap[p.block]? with | some (.cells c _ _) => c[0 + j]? | _ => none) = _
      rw [q5, Nat.zero_add]; show cs[j]? = _; rw [v1, v2]
      have : ((l.map jx).toArray)[j]! = jx l[j] := by
       rw [getElem!_pos _ j (by simpa using hjl)]
       simp
      rw [this]
      congr 1
      show Value.string _ = Value.string _
      have e1 : (Dv.t l).at j 0 = l[j].headD (.i 0) := by
       unfold Dv.at; simp only [Dv.T, List.getElem?_eq_getElem hjl, Option.getD_some]; cases l[j] <;> rfl
      rw [e1]; unfold jx; simp
     ·show World.frozen? w _ = false; simp [World.frozen?, q5]
    have hsz : (l.map jx).length < 4611686018427387904 := by simp; omega
    have hblk := (Array.getElem?_eq_some_iff.1 q5).1; have := hs p.block 0 (p.cap - 0) (l.map jx) w hH hblk hsz; rw [List.length_map] at this; rw [hlN]; refine this.mono fun e w' hq => ?_; obtain ⟨rfl, k, os, rfl⟩ := hq; exact ⟨ρ, _, rfl, af.le_refl ρ, put k os, hn, [], rfl, rfl⟩
  simp only [run_bind, aU] at hr; obtain ⟨o, _, ⟨ho1, rfl⟩, hr⟩ := hr; split at hr
  ·rename_i T e; exact main T e _ ho1 rfl (fun H => H.bk n _ ho1) hr
  ·rename_i T rl e; simp only [run_bind, bU] at hr; obtain ⟨_, _, ⟨h1, rfl⟩, hr⟩ := hr; refine main T e _ ho1 rfl (fun H => ?_) hr
   have hrl : (rl.den env).I = ((e.den env).T.length : Int) := by
    rw [bn] at h1; have h1 : ((rl.den env).I == ((fZ .ab e).den env).I) = true := h1; rw [bA] at h1; exact eq_of_beq h1
   have := aA.fK env env id (A := _) (B := _) (fun _ h => h) (n := n) (m := n) (o := .row T 1 rl [.tc .str e 0] []) (o' := .rA T jl e) ⟨rfl, rfl, Nat.one_pos, rfl, e, rfl, hrl, List.Perm.refl _⟩ rfl rfl (H.bk n _ ho1); exact this
  ·exact hr.elim
 ·cases hp
end Go.Sx
namespace Go.Sx
open Go.RowKit cK
set_option linter.unusedVariables false
set_option linter.unusedSimpArgs false
def D6 (P : Program) (o : Env) : List (FuncId × (List SV -> Nat -> Option (Prog (SV × Nat)))) -> Prop
 | [] => True
 | x :: l => eV P o x.1 x.2 /\ D6 P o l
def El (P : Program) (o : Env) : List (FuncId × Nat × (Fr -> Nat -> Option (Prog (eI × Fr × Nat)))) -> Prop
 | [] => True
 | x :: l => eg P o x.1 x.2.1 x.2.2 /\ El P o l
theorem D6.mem {P : Program} {o : Env} : ∀ {l : List (FuncId × (List SV -> Nat -> Option (Prog (SV × Nat))))}, D6 P o l -> ∀ x ∈ l, eV P o x.1 x.2
 | [], _, x, hx => by cases hx
 | y :: l, ⟨h, k⟩, x, hx => by
   rcases List.mem_cons.1 hx with rfl | hx
   ·exact h
   ·exact k.mem x hx
theorem El.mem {P : Program} {o : Env} : ∀ {l : List (FuncId × Nat × (Fr -> Nat -> Option (Prog (eI × Fr × Nat))))}, El P o l -> ∀ x ∈ l, eg P o x.1 x.2.1 x.2.2
 | [], _, x, hx => by cases hx
 | y :: l, ⟨h, k⟩, x, hx => by
   rcases List.mem_cons.1 hx with rfl | hx
   ·exact h
   ·exact k.mem x hx
theorem bN {P : Program} {o : Env} {c : jw} (hap : c.Yj.all (fun x => kF P x.1) = true) (hf : D6 P o c.fns) (hl : El P o c.Yj) (A : Anchor) : eJ P o A (c.x.cR P) := jw.ok hap hf.mem hl.mem A
theorem rf {P : Program} {o : Env} {c : jw} (hap : c.Yj.all (fun x => kF P x.1) = true) (hf : D6 P o c.fns) (hl : El P o c.Yj) (A : Anchor) : eJ P o A (c.x.Ba.cR P) := jw.ok hap hf.mem hl.mem A
theorem E.ny {e e' : Env} (hv : e.v = e'.v) (hf : e.fn = e'.fn) (hu : e.uf = e'.uf) : ∀ x : E, x.den e = x.den e'
 | .v n => congrFun hv n
 | .il _ => rfl
 | .bl _ => rfl
 | .sl _ => rfl
 | .fn c a => by show e.fn c _ = e'.fn c _; rw [hf, E.ny hv hf hu a]
 | .uf c a => by show e.uf c _ = e'.uf c _; rw [hu, E.ny hv hf hu a]
 | .o1 o a => by show o.den _ = o.den _; rw [E.ny hv hf hu a]
 | .o2 o a b => by show o.den _ _ = o.den _ _; rw [E.ny hv hf hu a, E.ny hv hf hu b]
 | .ext a b c => by simp only [E.den, E.ny hv hf hu a, E.ny hv hf hu b, E.ny hv hf hu c]
theorem gM (D : aj) {e : Env} {u : Nat -> Value} {i : Nat} {x : E} (h : x.dt D.r = true) : x.den (D.env e u i) = x.den e := by
 rw [E.ny (e := D.env e u i) (e' := yx e D.r (.i i)) rfl rfl rfl x]; exact E.bE (DC e D.r (.i i)) h
theorem fQ (D : aj) {e : Env} {u : Nat -> Value} {i : Nat} {fs : aa} (h : J2 D.r fs = true) (hf : fs.aB e) : fs.aB (D.env e u i) := fun x b hm => by
 rw [gM D (List.all_eq_true.1 h _ hm)]; exact hf x b hm
theorem dW (D : aj) {e : Env} {u : Nat -> Value} {i : Nat} : (D.env e u i).v D.r = .i i := by
 show (if D.r = D.r then _ else _) = _
 rw [if_pos rfl]
structure iw (P : Program) (D : aj) (aH : E) (L : List (aa × List Ob)) : Prop where
 ob : D.jC P 0 = some L
 body : ((P.funcs[D.f]?).bind (·.body)).isSome = true
 fs : (D.hd 0).fs = (.o2 .le (.il 0) (.v D.r), true) :: (.o2 .le (.v D.r) aH, true) :: D.aV 0
 no : (J2 D.r (D.aV 0) && aH.dt D.r) = true
 lt : D.lt = .o2 .lt (.v D.r) aH
 k : ∀ m, D.nT m = true -> m = 0
 t : ∀ m, D.ml m = true -> m = 0
 hx : ∀ ν, ((D.hx ν).h.all fun x => bS x.2) = true
theorem iw.ok {P : Program} (hP : Plain P) (hM : P.follows .mixedOrders = true) {D : aj} {aH : E} {L : List (aa × List Ob)} (C : iw P D aH L) {env : Env}
    (hnn : ∀ o, o.uf = env.uf -> (D.aV 0).aB o -> 0 <= (aH.den o).I)
    (hX : ∀ o A, o.uf = env.uf -> eJ P o A (D.X.cR P))
    (hL : ∀ o (i : Nat), o.uf = env.uf -> (D.aV 0).aB o -> o.v D.r = .i i -> (i : Int) <= (aH.den o).I -> br o L) : eg P env D.f D.key D.dB := by
 have hno := C.no; rw [Bool.and_eq_true] at hno
 have hln : ∀ {e' : Env} {u : Nat -> Value} {i : Nat}, D.aV 0 |>.aB e' -> aj.jI D env e' -> i <= (aH.den e').I.toNat -> (i : Int) <= (aH.den (D.env e' u i)).I := fun {e' u i} h he hi => by
  rw [gM D hno.2]; have := hnn e' he.uf h; omega
 refine Gq hP hM C.body (fun e => (aH.den e).I.toNat) C.ob C.k C.t C.hx (fun e' i u A he _ _ => hX _ A he.uf) (fun e' he h i u hi => hL _ i he.uf (fQ D hno.1 h) (dW D) (hln h he hi)) (fun e' he h i u hi => ?_) (fun e' he h i u hi hl => ?_)
 ·rw [C.fs]; refine bO.2 ⟨?_, bO.2 ⟨?_, fQ D hno.1 h⟩⟩
  ·rw [sI, xX, HL, dW]; exact decide_eq_true (Int.natCast_nonneg i)
  ·rw [sI, HL, dW]; exact decide_eq_true (hln h he hi)
 ·rw [C.lt, B5, HL, dW, gM D hno.2] at hl; have hl := of_decide_eq_true hl; have : (Dv.i (i : Int)).I = i := rfl; omega
structure IK (P : Program) (D : aj) (aH : E) (L0 L1 : List (aa × List Ob)) : Prop where
 OD : D.jC P 0 = some L0
 Zm : D.jC P 1 = some L1
 body : ((P.funcs[D.f]?).bind (·.body)).isSome = true
 fs0 : (D.hd 0).fs = (.o2 .aX (.v D.r) (.il 0), true) :: (.o2 .le (.il 0) (.v D.r), true) :: (.o2 .le (.v D.r) aH, true) :: D.aV 0
 B8 : (D.hd 1).fs = (.o2 .lt (.il 0) (.v D.r), true) :: (.o2 .le (.il 0) (.v D.r), true) :: (.o2 .le (.v D.r) aH, true) :: D.aV 0
 no : (J2 D.r (D.aV 0) && aH.dt D.r) = true
 lt : D.lt = .o2 .lt (.v D.r) aH
 k : ∀ m, D.nT m = true -> m = 0
 t : ∀ m, D.ml m = true -> m = 1
 hx : ∀ ν, ((D.hx ν).h.all fun x => bS x.2) = true
theorem IK.ok {P : Program} (hP : Plain P) (hM : P.follows .mixedOrders = true) {D : aj} {aH : E} {L0 L1 : List (aa × List Ob)} (C : IK P D aH L0 L1) {env : Env}
    (hnn : ∀ o, o.uf = env.uf -> (D.aV 0).aB o -> 0 <= (aH.den o).I)
    (hX : ∀ o A, o.uf = env.uf -> eJ P o A (D.X.cR P))
    (hL0 : ∀ o, o.uf = env.uf -> (D.aV 0).aB o -> o.v D.r = .i (0 : Nat) -> 0 <= (aH.den o).I -> br o L0)
    (hL1 : ∀ o (i : Nat), o.uf = env.uf -> (D.aV 0).aB o -> o.v D.r = .i i -> 0 < i -> (i : Int) <= (aH.den o).I -> br o L1) : eg P env D.f D.key D.dB := by
 have hno := C.no; rw [Bool.and_eq_true] at hno
 have hln : ∀ {e' : Env} {u : Nat -> Value} {i : Nat}, D.aV 0 |>.aB e' -> aj.jI D env e' -> i <= (aH.den e').I.toNat -> (i : Int) <= (aH.den (D.env e' u i)).I := fun {e' u i} h he hi => by
  rw [gM D hno.2]; have := hnn e' he.uf h; omega
 refine UE hP hM C.body (fun e => (aH.den e).I.toNat) C.OD C.Zm C.k C.t C.hx (fun e' i u A he _ _ => hX _ A he.uf)
  (fun e' he h u => hL0 _ he.uf (fQ D hno.1 h) (dW D) (by rw [gM D hno.2]; exact hnn e' he.uf h))
  (fun e' he h i u h0 hi => hL1 _ i he.uf (fQ D hno.1 h) (dW D) h0 (hln h he hi)) (fun e' he h u => ?_) (fun e' he h i u h0 hi => ?_) (fun e' he h i u hi hl => ?_)
 ·rw [C.fs0]; refine bO.2 ⟨?_, bO.2 ⟨?_, bO.2 ⟨?_, fQ D hno.1 h⟩⟩⟩
  ·rw [On, xX, HL, dW]; exact decide_eq_true rfl
  ·rw [sI, xX, HL, dW]; exact decide_eq_true (Int.natCast_nonneg 0)
  ·rw [sI, HL, dW]; exact decide_eq_true (hln h he (Nat.zero_le _))
 ·rw [C.B8]; refine bO.2 ⟨?_, bO.2 ⟨?_, bO.2 ⟨?_, fQ D hno.1 h⟩⟩⟩
  ·rw [B5, xX, HL, dW]; exact decide_eq_true (by show (0 : Int) < (i : Int); omega)
  ·rw [sI, xX, HL, dW]; exact decide_eq_true (Int.natCast_nonneg i)
  ·rw [sI, HL, dW]; exact decide_eq_true (hln h he hi)
 ·rw [C.lt, B5, HL, dW, gM D hno.2] at hl; have hl := of_decide_eq_true hl; have : (Dv.i (i : Int)).I = i := rfl; omega
structure P9 (P : Program) (D : aj) (aH : E) (L : Nat -> List (aa × List Ob)) : Prop where
 ob : ∀ m, (D.nT m || D.ml m) = true -> D.jC P m = some (L m)
 body : ((P.funcs[D.f]?).bind (·.body)).isSome = true
 fs : ∀ m, (D.hd m).fs = D.mf m ++ (.o2 .le (.il 0) (.v D.r), true) :: (.o2 .le (.v D.r) aH, true) :: D.aV 0
 aV : ∀ m, D.aV m = D.aV 0
 no : (J2 D.r (D.aV 0) && aH.dt D.r) = true
 lt : D.lt = .o2 .lt (.v D.r) aH
 hx : ∀ ν, ((D.hx ν).h.all fun x => bS x.2) = true
theorem P9.ok {P : Program} (hP : Plain P) (hM : P.follows .mixedOrders = true) {D : aj} {aH : E} {L : Nat -> List (aa × List Ob)} (C : P9 P D aH L) {env : Env}
    (hnn : ∀ o, o.uf = env.uf -> (D.aV 0).aB o -> 0 <= (aH.den o).I)
    (hX : ∀ o A, o.uf = env.uf -> eJ P o A (D.X.cR P))
    (hL : ∀ o (i m : Nat), o.uf = env.uf -> (D.aV 0).aB o -> (D.mf m).aB o -> (D.nT m || D.ml m) = true -> o.v D.r = .i i -> (i : Int) <= (aH.den o).I -> br o (L m)) : eg P env D.f D.key D.dB := by
 have hno := C.no; rw [Bool.and_eq_true] at hno
 have hln : ∀ {e' : Env} {u : Nat -> Value} {i : Nat}, D.aV 0 |>.aB e' -> aj.jI D env e' -> i <= (aH.den e').I.toNat -> (i : Int) <= (aH.den (D.env e' u i)).I := fun {e' u i} h he hi => by
  rw [gM D hno.2]; have := hnn e' he.uf h; omega
 refine aj.ED hP hM C.body (fun e' he μ0 h0 hent => ?_) C.hx; rw [C.aV] at hent
 refine ⟨⟨(aH.den e').I.toNat, fun u i μ => (D.nT μ || D.ml μ) = true /\ (D.mf μ).aB (D.env e' u i), L, fun i u A _ => hX _ A he.uf, fun u i μ hm => C.ob μ hm.1,
  fun i μ u hm hi x hx hfx => gW (hL (D.env e' u i) i μ he.uf (fQ D hno.1 hent) hm.2 hm.1 (dW D) (hln hent he hi)) x hx hfx, fun i μ u hm hi => ?_, fun i u hi hl => ?_,
  fun u i μ μ' hm ht hmf _ => ⟨μ', ⟨by rw [ht, Bool.or_true], hmf⟩, gz.refl _⟩, fun u hmf => ⟨μ0, ⟨by rw [h0, Bool.true_or], hmf⟩, gz.refl _⟩⟩⟩
 ·rw [C.fs]; refine lr hm.2 (bO.2 ⟨?_, bO.2 ⟨?_, fQ D hno.1 hent⟩⟩)
  ·rw [sI, xX, HL, dW]; exact decide_eq_true (Int.natCast_nonneg i)
  ·rw [sI, HL, dW]; exact decide_eq_true (hln hent he hi)
 ·rw [C.lt, B5, HL, dW, gM D hno.2] at hl; have hl := of_decide_eq_true hl; have : (Dv.i (i : Int)).I = i := rfl; omega
theorem cS {P : Program} (hP : Plain P) (hM : P.follows .mixedOrders = true) {D : cK} {env : Env} {L : List (aa × List Ob)} (n5 : D.jC P = some L)
    (hX : ∀ o A, o.uf = env.uf -> eJ P o A (D.X.cR P)) (hL : ∀ o, o.uf = env.uf -> D.aV.aB o -> br o L) : eV P env D.f D.bh :=
 Vk hP hM n5 (fun e' A he => hX e' A he.uf) (fun e' he => hL e' he.uf)
def Vs (r : Nat) (m : Nat) (aH : E) : aa := (match m with | 0 => (.o2 .aX (.v r) (.il 0), true) | _ => (.o2 .lt (.il 0) (.v r), true)) :: (.o2 .le (.il 0) (.v r), true) :: [(.o2 .le (.v r) aH, true)]
def JB (f key N r : Nat) (J : List Nat) (fx : List (Nat × SV)) (out idx T : Nat) (dks : aJ) (res aH : E) (aV : aa) (params : List Nat) (X : dF) (ex : Nat) (bk : aQ := []) : aj where
 f := f; key := key; N := N; r := r; base := 5000 + 1000 * (r - 2000)
 js := J
 hd := fun m => ⟨fx ++ [(out, match m with | 0 => .cr | _ => .sl 8 dks.len (.il 0) (.v r)), (idx, .int .i64 (.v r))], (match m with | 0 => bk | _ => (8, .row T dks.len (.v r) (bX dks res 0) []) :: bk), 9, Vs r m aH ++ aV⟩
 aV := fun _ => aV
 app := fun _ => true
 nT := fun m => Nat.beq m 0
 dY := fun sl => match nth sl out with | some .cr => .ret 0 | some (.sl ..) => .ret 1 | _ => .fail
 ml := fun m => Nat.beq m 1
 mf := fun _ => []
 hx := fun _ => ⟨fx ++ [(out, .cg dks res), (idx, .top)], bk, 9, []⟩
 ur := fun _ _ => .ret 0
 oN := fun _ => .exit ex
 bz := [(.bl true, 0)]
 fixed := bk.map (·.1)
 lt := .o2 .lt (.v r) aH
 X := X
 fuel := 300; np := 80
 params := params
 yn := [(T, dks)]
end Go.Sx
namespace Go.Proofs.YtdlppkhmmclipaaGreat
abbrev kN : Nat := 35
abbrev nb : Nat := 36
abbrev iq : Nat := 47
abbrev kM : Nat := 38
abbrev vg : Nat := 68
abbrev tz : Nat := 48
abbrev Ni : Nat := 39
abbrev tM : Nat := 27
abbrev pS : Nat := 13
abbrev lK : Nat := 14
abbrev rL : Nat := 15
abbrev eM : Nat := 31
abbrev pW : Nat := 65
abbrev BF : Nat := 86
abbrev DM : Nat := 69
abbrev R6 : Nat := 89
abbrev fc : Nat := 96
abbrev iW : Nat := 108
abbrev cG : Nat := 109
abbrev G0 : Nat := 116
abbrev FI : Nat := 83
abbrev RH : Nat := 82
abbrev Bc : Nat := 159
abbrev Ny : Nat := 160
abbrev BR : Nat := 133
abbrev sg : Nat := 30
abbrev uI : Nat := 9
abbrev Lm : Nat := 20
abbrev Er : Nat := 155
abbrev N9 : Nat := 37
abbrev agB : Nat := 3
end Go.Proofs.YtdlppkhmmclipaaGreat
namespace Go.Proofs.YtdlppkhmmclipaaGreat.sxObj
open Go.Sx Go.RowKit Go.Proofs.YtdlppkhmmclipaaGreat
set_option linter.unusedVariables false
def me (a b : Nat) : List Nat := (List.range (b - a)).map (· + a)
def gI : aJ := .cons .str (.cons .str .nil)
def fW : aJ := .cons .str (.cons .str (.cons .str (.cons .str (.cons (.sl gI) (.cons .str (.cons .bool (.cons .bool .nil)))))))
def oK : aJ := .cons .str (.cons .str (.cons .str (.cons .str (.cons (.sl gI) (.cons .str (.cons .bool (.cons .bool (.cons .nilm .nil))))))))
def aC : DK := .eh RH (.fp oK)
def aK : aJ := .cons aC .nil
def ES (e : Nat -> E) (lab : SV) : List SV := [.str (e 0), .str (e 1), .str (e 2), .str (e 3), lab, .str (e 5), .bool (e 6), .bool (e 7)]
def qB (e : Nat -> E) : List SV := ES e (.cg gI (e 4))
def vE (b j : Nat) : E := .v (b + j)
def cE (x i : E) (j : Nat) : E := .o2 (.cell j) x i
def pk8 (e : Nat -> E) : List E := [e 0, e 1, e 2, e 3, e 4, e 5, e 6, e 7]
def JY (e : Nat -> E) : E := .uf 110 (pk [e 0, e 1, e 4])
def OA (l : E) : E := .uf 111 (pk [l])
def sW (e : Nat -> E) : E := .uf 100 (pk [e 0, e 1])
def aH (l : E) : E := .o1 .ab l
def inE (e : Nat -> E) : E := rowOf [e 0, e 1, e 2, e 3, e 4, e 5, e 6, e 7, .il 0]
def Aw : aj where
 f := kN; key := 3; N := 43; r := 2100; base := 105000
 js := me 21 42
 hd := fun m => ⟨[(1, .ptr 1 (.c 0)), (3, .ptr 2 (.c 0)), (4, .int .i64 (.v 2100))],
  (match m with | 0 => [] | _ => [(8, .row Ny 2 (.v 2100) (bX gI (.v 7104) 0) [])]) ++
  [(2, .cells Bc (ES (vE 7100) (match m with | 0 => .cr | _ => .sl 8 2 (.il 0) (.v 2100)) ++ [.cC])), (1, .cells sg (qB (vE 7100)))], 9,
  Vs 2100 m (aH (.v 7104)) ++ [(.o2 .le (aH (.v 7104)) (.il 2147483647), true)]⟩
 aV := fun _ => [(.o2 .le (aH (.v 7104)) (.il 2147483647), true)]
 app := fun _ => true
 nT := fun m => Nat.beq m 0
 dY := fun sl => match nth sl 3 with | some (.ptr n _) => .get n fun o => (match o with | .cells _ cs => (match nth cs 4 with | some .cr => .ret 0 | some (.sl ..) => .ret 1 | _ => .fail) | _ => .fail) | _ => .fail
 ml := fun m => Nat.beq m 1
 mf := fun _ => []
 hx := fun _ => ⟨[(1, .ptr 1 (.c 0)), (3, .ptr 2 (.c 0)), (4, .top)], [(2, .cells Bc (qB (vE 7100) ++ [.cC])), (1, .cells sg (qB (vE 7100)))], 9, []⟩
 ur := fun _ _ => .ret 0
 oN := fun _ => .exit 0
 bz := [(.bl true, 0)]
 fixed := [1, 2]
 lt := .o2 .lt (.v 2100) (aH (.v 7104))
 X := dF.none
 fuel := 300; np := 80
 params := me 7100 7108
 yn := [(Ny, gI)]
def ma : cK where
 f := kN
 args := [.agg (qB (vE 7110))]
 params := me 7110 7118
 aV := [(JY (vE 7110), true)]
 app := fun _ => true
 yn := [(Bc, oK)]
 bz := [(.bl true, 0)]
 kind := fun _ => some 0
 out := fun _ => .dC oK (inE (vE 7110)) (.il 0) 0
 X := (⟨[], [(kN, 3, Aw.dB)]⟩ : jw).x
 fuel := 300; np := 80
def lG : aj := JB nb 3 21 2101 (me 5 20) [(0, .cg fW (.v 7120))] 3 4 Lm aK (.uf 101 (pk [.v 7120])) (aH (.v 7120)) [(OA (.v 7120), true), (.o2 .le (aH (.v 7120)) (.il 2147483647), true)] [7120] (⟨[(kN, ma.bh)], []⟩ : jw).x 0
def vk : cK where
 f := nb
 args := [.cg fW (.v 7121)]
 params := [7121]
 aV := [(OA (.v 7121), true), (.o2 .le (aH (.v 7121)) (.il 2147483647), true)]
 app := fun _ => true
 bz := [(.bl true, 0)]
 kind := fun _ => some 0
 out := fun _ => .cg aK (.uf 101 (pk [.v 7121]))
 X := (⟨[], [(nb, 3, lG.dB)]⟩ : jw).x
 fuel := 300; np := 80
def x0 : E := .v 7130
def i0 : E := .v 7131
def vp : aj where
 f := iq; key := 9; N := 84; r := 2102; base := 107000
 js := me 62 83
 hd := fun m => ⟨[(3, .dC oK x0 i0 0), (7, .ptr 1 (.c 0)), (8, .int .i64 (.v 2102))],
  (match m with | 0 => [] | _ => [(8, .row BR 2 (.v 2102) (bX gI (cE x0 i0 4) 0) [])]) ++
  [(1, .cells sg (ES (cE x0 i0) (match m with | 0 => .cr | _ => .sl 8 2 (.il 0) (.v 2102))))], 9,
  Vs 2102 m (aH (cE x0 i0 4)) ++ [(.o2 .le (aH (cE x0 i0 4)) (.il 2147483647), true)]⟩
 aV := fun _ => [(.o2 .le (aH (cE x0 i0 4)) (.il 2147483647), true)]
 app := fun _ => true
 nT := fun m => Nat.beq m 0
 dY := fun sl => match nth sl 7 with | some (.ptr n _) => .get n fun o => (match o with | .cells _ cs => (match nth cs 4 with | some .cr => .ret 0 | some (.sl ..) => .ret 1 | _ => .fail) | _ => .fail) | _ => .fail
 ml := fun m => Nat.beq m 1
 mf := fun _ => []
 hx := fun _ => ⟨[(3, .dC oK x0 i0 0), (7, .ptr 1 (.c 0)), (8, .top)], [(1, .cells sg (qB (cE x0 i0)))], 9, []⟩
 ur := fun _ _ => .ret 0
 oN := fun _ => .exit 0
 bz := [(.bl true, 0)]
 fixed := [1]
 lt := .o2 .lt (.v 2102) (aH (cE x0 i0 4))
 X := dF.none
 fuel := 300; np := 80
 params := [7130, 7131]
 yn := [(BR, gI)]
def QA (x i : Nat) : SV := .eh RH (.dC oK (.v x) (.v i) 0)
def iV : cK where
 f := iq
 args := [QA 7135 7136]
 params := [7135, 7136]
 aV := [(JY (cE (.v 7135) (.v 7136)), true)]
 app := fun _ => true
 bz := [(.bl true, 0)]
 kind := fun _ => some 0
 out := fun _ => .agg (qB (cE (.v 7135) (.v 7136)))
 X := (⟨[], [(iq, 9, vp.dB)]⟩ : jw).x
 fuel := 300; np := 80
def M4 : List UInt8 := [111, 98, 106, 101, 99, 116, 32, 104, 97, 115, 32, 110, 111, 32, 109, 101, 116, 97, 58, 32, 46, 46]
def ri : cK where
 f := tM
 args := [QA 7140 7141]
 params := [7140, 7141]
 aV := [(JY (cE (.v 7140) (.v 7141)), true)]
 app := fun args => match args with | [.eh t (.dC ..)] => Nat.beq t RH | _ => false
 bz := [(cE (.v 7140) (.v 7141) 6, 1), (.bl true, 0)]
 kind := fun r => match r with | .fq [_, .dO] => some 0 | .fq [_, .eh ..] => some 1 | _ => none
 out := fun n => match n with | 0 => .fq [.str (sW (cE (.v 7140) (.v 7141))), .dO] | _ => .fq [.str (.sl []), .eh Er (.str (.sl M4))]
 X := dF.none
 fuel := 300; np := 80
def qV : cK where
 f := tz
 args := [.agg (qB (vE 7150))]
 params := me 7150 7158
 aV := [(JY (vE 7150), true)]
 app := fun _ => true
 bz := [(.v 7156, 1), (.bl true, 0)]
 kind := fun r => match r with | .fq [_, .bool (.bl true)] => some 0 | .fq [_, .bool (.bl false)] => some 1 | _ => none
 out := fun n => match n with | 0 => .fq [.str (sW (vE 7150)), .bool (.bl true)] | _ => .fq [.str (.sl []), .bool (.bl false)]
 X := (⟨[(kN, ma.bh), (tM, ri.bh)], []⟩ : jw).x
 fuel := 300; np := 80
def j5 : cK where
 f := pS
 args := [.agg (qB (vE 7160))]
 params := me 7160 7168
 aV := [(JY (vE 7160), true)]
 app := fun _ => true
 bz := [(.v 7166, 1), (.bl true, 0)]
 kind := fun r => match r with | .fq [_, .bool (.bl true)] => some 0 | .fq [_, .bool (.bl false)] => some 1 | _ => none
 out := fun n => match n with | 0 => .fq [.str (sW (vE 7160)), .bool (.bl true)] | _ => .fq [.str (.sl []), .bool (.bl false)]
 X := dF.none
 fuel := 300; np := 80
def P7 : E := pk [.v 7170, .v 7171]
def pI : aj where
 f := lK; key := 2; N := 32; r := 2103; base := 108000
 js := [6, 7, 8, 9] ++ me 13 30
 hd := fun _ => ⟨[(1, .str (.v 7171)), (4, .int .i64 (.il 0)), (5, .bool (.bl false)), (10, .cg fW (.v 7170)), (11, .int .i64 (aH (.v 7170))), (12, .int .i64 (.v 2103))], [], 9,
  (.o2 .le (.il 0) (.v 2103), true) :: (.o2 .le (.v 2103) (.uf 104 P7), true) :: [(OA (.v 7170), true), (.o2 .le (aH (.v 7170)) (.il 1000000), true)]⟩
 aV := fun _ => [(OA (.v 7170), true), (.o2 .le (aH (.v 7170)) (.il 1000000), true)]
 app := fun _ => true
 nT := fun m => Nat.beq m 0
 dY := fun _ => .ret 0
 ml := fun m => Nat.beq m 0
 mf := fun _ => []
 hx := fun n => match n with
  | 1 => ⟨[(1, .top), (4, .int .i64 (.uf 104 P7)), (5, .bool (.uf 105 P7)), (10, .top), (11, .top), (12, .top)], [], 9, []⟩
  | _ => ⟨[(1, .str (.v 7171)), (4, .int .i64 (.il 0)), (5, .bool (.bl false)), (10, .cg fW (.v 7170)), (11, .int .i64 (aH (.v 7170))), (12, .top)], [], 9, []⟩
 ur := fun ex _ => match ex with | .ret => .ret 1 | _ => .ret 0
 oN := fun n => match n with | 1 => .ret | _ => .exit 0
 bz := [(.o2 .lt (.uf 104 P7) (aH (.v 7170)), 1), (.bl true, 0)]
 fixed := []
 lt := .o2 .lt (.v 2103) (.uf 104 P7)
 X := (⟨[(pS, j5.bh)], []⟩ : jw).x
 fuel := 300; np := 80
 params := [7170, 7171]
def sq : cK where
 f := lK
 args := [.cg fW (.v 7173), .str (.v 7174)]
 params := [7173, 7174]
 aV := [(OA (.v 7173), true), (.o2 .le (aH (.v 7173)) (.il 1000000), true)]
 app := fun _ => true
 bz := [(.bl true, 0)]
 kind := fun _ => some 0
 out := fun _ => .fq [.int .i64 (.uf 104 (pk [.v 7173, .v 7174])), .bool (.uf 105 (pk [.v 7173, .v 7174]))]
 X := (⟨[], [(lK, 2, pI.dB)]⟩ : jw).x
 fuel := 300; np := 80
def GH : cK where
 f := Ni
 args := [.cg jl (.v 7198)]
 params := [7198]
 aV := [(.o2 .le (aH (.v 7198)) (.il 1000000), true)]
 app := fun _ => true
 yn := [(uI, jl)]
 bz := [(.bl true, 0)]
 kind := fun _ => some 0
 out := fun _ => .cg jl (.uf 106 (pk [.v 7198]))
 X := (⟨[(DM, zG 106)], []⟩ : jw).x
 fuel := 300; np := 80
end Go.Proofs.YtdlppkhmmclipaaGreat.sxObj
namespace Go.Sx
open Go.RowKit
set_option linter.unusedVariables false
set_option linter.unusedSimpArgs false
def ar (d : Dv) (k : Nat) : Dv := cc (row d 0) k
theorem afP {a b : Dv} : ar (O2.den .bT a b) 0 = a := id rfl
theorem afL {a b c : Dv} : ar (O2.den .bT a (O2.den .bT b c)) 1 = b := id rfl
theorem agL {a b c d : Dv} : ar (O2.den .bT a (O2.den .bT b (O2.den .bT c d))) 2 = c := id rfl
theorem afx {a b c d e : Dv} : ar (O2.den .bT a (O2.den .bT b (O2.den .bT c (O2.den .bT d e)))) 3 = d := id rfl
theorem af8 {a b c d e f : Dv} : ar (O2.den .bT a (O2.den .bT b (O2.den .bT c (O2.den .bT d (O2.den .bT e f))))) 4 = e := id rfl
theorem agl {a b c d e f g : Dv} : ar (O2.den .bT a (O2.den .bT b (O2.den .bT c (O2.den .bT d (O2.den .bT e (O2.den .bT f g)))))) 5 = f := id rfl
theorem afv {a b c d e f g h : Dv} : ar (O2.den .bT a (O2.den .bT b (O2.den .bT c (O2.den .bT d (O2.den .bT e (O2.den .bT f (O2.den .bT g h))))))) 6 = g := id rfl
theorem agn {a b c d e f g h i : Dv} : ar (O2.den .bT a (O2.den .bT b (O2.den .bT c (O2.den .bT d (O2.den .bT e (O2.den .bT f (O2.den .bT g (O2.den .bT h i)))))))) 7 = h := id rfl
theorem afD {a b c d e f g h i j : Dv} : ar (O2.den .bT a (O2.den .bT b (O2.den .bT c (O2.den .bT d (O2.den .bT e (O2.den .bT f (O2.den .bT g (O2.den .bT h (O2.den .bT i j))))))))) 8 = i := id rfl
theorem agU {env : Env} {q : KQ} {a b : E} : (E.o2 (.mf q) a b).den env = .i (aP q (b.den env) (a.den env).T) := id rfl
theorem adS {env : Env} {q : KQ} {a b : E} : ((E.o2 (.mf q) a b).den env).I = aP q (b.den env) (a.den env).T := id rfl
theorem aaE {env : Env} {a b : E} : (E.o2 .mul a b).den env = .i ((a.den env).I * (b.den env).I) := id rfl
theorem Zy {env : Env} {a b : E} : (E.o2 .sub a b).den env = .i ((a.den env).I - (b.den env).I) := id rfl
theorem agd {env : Env} {a b : E} : (E.o2 .mn a b).den env = .i (if (b.den env).I < (a.den env).I then (b.den env).I else (a.den env).I) := id rfl
theorem ZN {env : Env} {a b : E} : (E.o2 .cat a b).den env = .s ((a.den env).S ++ (b.den env).S) := id rfl
theorem abX {env : Env} {q : KQ} {a b : E} : ((E.o2 (.mp q) a b).den env).T = jB q (a.den env).T (b.den env).row := id rfl
theorem ad1 {env : Env} {q : KQ} {a b : E} : ((E.o2 (.md q) a b).den env).T = nW q (a.den env).T (b.den env) := id rfl
theorem RO {env : Env} {a b : E} : ((E.o2 .fA a b).den env).T = (a.den env).T.set ((b.den env).row.headD (.i 0)).I.toNat (b.den env).row.tail := id rfl
theorem XR {env : Env} {a b : E} : (E.o2 .fA a b).den env = .t ((a.den env).T.set ((b.den env).row.headD (.i 0)).I.toNat (b.den env).row.tail) := id rfl
theorem YY {env : Env} {a b : E} : (E.o2 .fj a b).den env = .t ((a.den env).T ++ (b.den env).T) := id rfl
theorem YW {env : Env} {a b : E} : (E.o2 .tT a b).den env = .t ((a.den env).T.drop (b.den env).I.toNat) := id rfl
theorem PI {a b : Dv} : (O2.den .bT a b).row = a :: b.row := id rfl
theorem adZ {z : Int} : (Dv.i z).row = [] := id rfl
theorem WN {env : Env} {a b : E} : ((E.o2 .slt a b).den env).B = cA (a.den env).S (b.den env).S := id rfl
theorem agD {env : Env} {a b : E} : (Ob.p a b).den env ↔ (a.den env).T.Perm (b.den env).T := Iff.rfl
theorem af2 {a : Dv} {l : List Dv} : cc (a :: l) 0 = a := id rfl
theorem afS {a b : Dv} {l : List Dv} : cc (a :: b :: l) 1 = b := id rfl
theorem af7 {a b c : Dv} {l : List Dv} : cc (a :: b :: c :: l) 2 = c := id rfl
theorem ac0 {a b : Dv} : row (O2.den .bT a b) 0 = a :: b.row := id rfl
theorem Gi {r : Nat} : ((r : Int) + 1).toNat = r + 1 := by omega
theorem No {d : Dv} {n : Nat} (h : n < d.T.length) : d.T[n]? = some (row d n) := by
 unfold row; rw [List.getElem?_eq_getElem h]; rfl
theorem nB {l : List (List Dv)} {f : List Dv -> List Dv} {n : Nat} (h : n < l.length) : row (.t (l.map f)) n = f (row (.t l) n) := by
 unfold row; simp only [Dv.T, List.getElem?_map, List.getElem?_eq_getElem h, Option.map_some, Option.getD_some]
theorem fS {d : Dv} {n : Nat} (h : n < d.T.length) : row d n ∈ d.T := List.mem_of_getElem? (No h)
theorem mem_row {d : Dv} {r : List Dv} (h : r ∈ d.T) : ∃ n, n < d.T.length /\ row d n = r := by
 obtain ⟨n, hn, rfl⟩ := List.mem_iff_getElem.1 h; exact ⟨n, hn, by unfold row; rw [List.getElem?_eq_getElem hn]; rfl⟩
noncomputable def dec (p : Prop) : Bool := @decide p (Classical.propDecidable p)
theorem aw {p : Prop} : dec p = true ↔ p := by unfold dec; simp
theorem e8 {α : Type} {l : List α} {n : Nat} (h : l.length <= n) : l.take n = l := List.take_of_length_le h
theorem toList_data (a : ByteArray) : a.toList = a.data.toList := by
 have : a = ByteArray.mk a.data.toList.toArray := by cases a; simp
 rw [this, ByteArray.toList_mk]
theorem SS : (((((((∀ {env : Env} {x : E} {b : Bool} {fs : aa}, aa.aB env ((x, b) :: fs) ↔ (E.den env x).B = b /\ aa.aB env fs) /\
 ((∀ {env : Env}, aa.aB env [] ↔ True) /\
 (∀ {env : Env} {x : Ob} {l : List Ob}, cL env (x :: l) ↔ Ob.den env x /\ cL env l))) /\
 ((∀ {env : Env}, cL env [] ↔ True) /\
 ((∀ {env : Env} {x : E}, Ob.den env (Ob.e x) ↔ (E.den env x).B = true) /\
 (∀ {env : Env} {a b : E}, Ob.den env (Ob.t a b) ↔ (E.den env a).T = (E.den env b).T)))) /\
 (((∀ {env : Env} {a b : E}, Ob.den env (Ob.p a b) ↔ (E.den env a).T.Perm (E.den env b).T) /\
 ((∀ {env : Env} {a b : E}, (E.den env (E.o2 O2.lt a b)).B = decide ((E.den env a).I < (E.den env b).I)) /\
 (∀ {env : Env} {a b : E}, (E.den env (E.o2 O2.le a b)).B = decide ((E.den env a).I <= (E.den env b).I)))) /\
 ((∀ {env : Env} {a b : E}, (E.den env (E.o2 O2.aX a b)).B = decide ((E.den env a).I = (E.den env b).I)) /\
 ((∀ {env : Env} {a b : E}, (E.den env (E.o2 O2.beq a b)).B = ((E.den env a).B == (E.den env b).B)) /\
 (∀ {env : Env} {a b : E}, (E.den env (E.o2 O2.seq a b)).B = ((E.den env a).S.toList == (E.den env b).S.toList)))))) /\
 ((((∀ {env : Env} {a b : E}, (E.den env (E.o2 O2.slt a b)).B = cA (E.den env a).S (E.den env b).S) /\
 ((∀ {env : Env} {a b : E}, (E.den env (E.o2 O2.and a b)).B = ((E.den env a).B && (E.den env b).B)) /\
 (∀ {env : Env} {a b : E}, (E.den env (E.o2 O2.or a b)).B = ((E.den env a).B || (E.den env b).B)))) /\
 ((∀ {env : Env} {a : E}, (E.den env (E.o1 O1.not a)).B = !(E.den env a).B) /\
 ((∀ {env : Env} {b : Bool}, (E.den env (E.bl b)).B = b) /\
 (∀ {env : Env} {z : Int}, (E.den env (E.il z)).I = z)))) /\
 (((∀ {env : Env} {a b : E}, (E.den env (E.o2 O2.sub a b)).I = (E.den env a).I - (E.den env b).I) /\
 ((∀ {env : Env} {a b : E}, (E.den env (E.o2 O2.add a b)).I = (E.den env a).I + (E.den env b).I) /\
 (∀ {env : Env} {a b : E}, (E.den env (E.o2 O2.mul a b)).I = (E.den env a).I * (E.den env b).I))) /\
 ((∀ {env : Env} {a : E}, (E.den env (E.o1 O1.ab a)).I = (((E.den env a).T.length : Nat) : Int)) /\
 ((∀ {env : Env} {a : E}, (E.den env (E.o1 O1.size a)).I = (((E.den env a).S.size : Nat) : Int)) /\
 (∀ {env : Env} {a b : E}, (E.den env (E.o2 O2.mx a b)).I = if (E.den env b).I > (E.den env a).I then (E.den env b).I else (E.den env a).I)))))) /\
 (((((∀ {env : Env} {a b : E}, (E.den env (E.o2 O2.mn a b)).I = if (E.den env b).I < (E.den env a).I then (E.den env b).I else (E.den env a).I) /\
 ((∀ {env : Env} {q : KQ} {a b : E}, (E.den env (E.o2 (O2.mf q) a b)).I = aP q (E.den env b) (E.den env a).T) /\
 (∀ {env : Env} {j : Nat} {a b : E}, E.den env (E.o2 (O2.cell j) a b) = cc (row (E.den env a) (E.den env b).I.toNat) j))) /\
 ((∀ {env : Env} {q : KQ} {a b : E}, E.den env (E.o2 (O2.mf q) a b) = Dv.i (aP q (E.den env b) (E.den env a).T)) /\
 ((∀ {env : Env} {c : Nat} {a : E}, E.den env (E.uf c a) = env.uf c (E.den env a)) /\
 (∀ {env : Env} {a b : E}, E.den env (E.o2 O2.bT a b) = O2.bT.den (E.den env a) (E.den env b))))) /\
 (((∀ {env : Env} {n : Nat}, E.den env (E.v n) = env.v n) /\
 ((∀ {env : Env} {z : Int}, E.den env (E.il z) = Dv.i z) /\
 (∀ {env : Env} {z : Bool}, E.den env (E.bl z) = Dv.b z))) /\
 ((∀ {env : Env} {s : List UInt8}, E.den env (E.sl s) = Dv.s { data := s.toArray }) /\
 ((∀ {env : Env} {a b : E}, E.den env (E.o2 O2.add a b) = Dv.i ((E.den env a).I + (E.den env b).I)) /\
 (∀ {env : Env} {a b : E}, E.den env (E.o2 O2.sub a b) = Dv.i ((E.den env a).I - (E.den env b).I)))))) /\
 ((((∀ {env : Env} {a b : E}, E.den env (E.o2 O2.mul a b) = Dv.i ((E.den env a).I * (E.den env b).I)) /\
 ((∀ {env : Env} {a b : E}, E.den env (E.o2 O2.mn a b) = Dv.i (if (E.den env b).I < (E.den env a).I then (E.den env b).I else (E.den env a).I)) /\
 (∀ {env : Env} {a : E}, E.den env (E.o1 O1.ab a) = Dv.i (((E.den env a).T.length : Nat) : Int)))) /\
 ((∀ {env : Env} {a b : E}, E.den env (E.o2 O2.fA a b) = Dv.t ((E.den env a).T.set ((E.den env b).row.headD (Dv.i 0)).I.toNat (E.den env b).row.tail)) /\
 ((∀ {env : Env} {a b : E}, E.den env (E.o2 O2.fj a b) = Dv.t ((E.den env a).T ++ (E.den env b).T)) /\
 (∀ {env : Env} {a b : E}, E.den env (E.o2 O2.de a b) = Dv.t (List.take (E.den env b).I.toNat (E.den env a).T))))) /\
 (((∀ {env : Env} {a b : E}, E.den env (E.o2 O2.tT a b) = Dv.t (List.drop (E.den env b).I.toNat (E.den env a).T)) /\
 ((∀ {env : Env} {a b : E}, E.den env (E.o2 O2.cat a b) = Dv.s ((E.den env a).S ++ (E.den env b).S)) /\
 (∀ {env : Env} {s : List UInt8}, (E.den env (E.sl s)).S = { data := s.toArray }))) /\
 (((∀ {env : Env} {q : KQ} {a b : E}, (E.den env (E.o2 (O2.md q) a b)).T = nW q (E.den env a).T (E.den env b)) /\
 (∀ {env : Env} {q : KQ} {a b : E}, (E.den env (E.o2 (O2.mp q) a b)).T = jB q (E.den env a).T (E.den env b).row)) /\
 ((∀ {env : Env} {a b : E}, (E.den env (E.o2 O2.fA a b)).T = (E.den env a).T.set ((E.den env b).row.headD (Dv.i 0)).I.toNat (E.den env b).row.tail) /\
 (∀ {env : Env} {a b : E}, (E.den env (E.o2 O2.fj a b)).T = (E.den env a).T ++ (E.den env b).T))))))) /\
 ((((((∀ {env : Env} {a b : E}, (E.den env (E.o2 O2.de a b)).T = List.take (E.den env b).I.toNat (E.den env a).T) /\
 ((∀ {env : Env} {a b : E}, (E.den env (E.o2 O2.tT a b)).T = List.drop (E.den env b).I.toNat (E.den env a).T) /\
 (∀ {a b : Dv}, ar (O2.bT.den a b) 0 = a))) /\
 ((∀ {a b c : Dv}, ar (O2.bT.den a (O2.bT.den b c)) 1 = b) /\
 ((∀ {a b c d : Dv}, ar (O2.bT.den a (O2.bT.den b (O2.bT.den c d))) 2 = c) /\
 (∀ {a b c d e : Dv}, ar (O2.bT.den a (O2.bT.den b (O2.bT.den c (O2.bT.den d e)))) 3 = d)))) /\
 (((∀ {a b c d e f : Dv}, ar (O2.bT.den a (O2.bT.den b (O2.bT.den c (O2.bT.den d (O2.bT.den e f))))) 4 = e) /\
 ((∀ {a b c d e f g : Dv}, ar (O2.bT.den a (O2.bT.den b (O2.bT.den c (O2.bT.den d (O2.bT.den e (O2.bT.den f g)))))) 5 = f) /\
 (∀ {a b c d e f g h : Dv}, ar (O2.bT.den a (O2.bT.den b (O2.bT.den c (O2.bT.den d (O2.bT.den e (O2.bT.den f (O2.bT.den g h))))))) 6 = g))) /\
 ((∀ {a b c d e f g h i : Dv}, ar (O2.bT.den a (O2.bT.den b (O2.bT.den c (O2.bT.den d (O2.bT.den e (O2.bT.den f (O2.bT.den g (O2.bT.den h i)))))))) 7 = h) /\
 ((∀ {a b c d e f g h i j : Dv}, ar (O2.bT.den a (O2.bT.den b (O2.bT.den c (O2.bT.den d (O2.bT.den e (O2.bT.den f (O2.bT.den g (O2.bT.den h (O2.bT.den i j))))))))) 8 = i) /\
 (∀ {l : List (List Dv)}, (Dv.t l).T = l))))) /\
 ((((∀ {z : Int}, (Dv.i z).T = []) /\
 ((∀ {a b : Dv}, (O2.bT.den a b).T = [a :: b.T.head?.getD []]) /\
 (∀ (z : Int), (Dv.i z).I = z))) /\
 ((∀ (z : Bool), (Dv.b z).B = z) /\
 ((∀ (z : ByteArray), (Dv.s z).S = z) /\
 (∀ {a b : Dv}, (O2.bT.den a b).row = a :: b.row)))) /\
 (((∀ {z : Int}, (Dv.i z).row = []) /\
 ((∀ {a b : Dv}, row (O2.bT.den a b) 0 = a :: b.row) /\
 (∀ {r : Nat}, (((r : Int)) + 1).toNat = r + 1))) /\
 (((∀ (n : Nat), ((n : Int)).toNat = n) /\
 (Int.toNat 0 = 0)) /\
 ((∀ {p : Prop} [inst : Decidable p], (decide p = true) = p) /\
 (∀ {p : Prop} {x : Decidable p}, decide p = false ↔ ¬p)))))) /\
 (((((∀ {α : Type} [inst : BEq α] [LawfulBEq α] {a b : α}, (a == b) = true ↔ a = b) /\
 ((∀ {α : Type} [inst : BEq α] [LawfulBEq α] {a b : α}, (a == b) = false ↔ a ≠ b) /\
 (∀ {α : Type}, ([] : List α).head? = none))) /\
 ((∀ {α : Type} {a : α} {l : List α}, (a :: l).head? = some a) /\
 ((∀ {α : Type} {a : α}, (none : Option α).getD a = a) /\
 (∀ {α : Type} {a b : α}, (some a).getD b = a)))) /\
 (((∀ {α : Type} {a : α} {l : List α} {d : α}, (a :: l).headD d = a) /\
 ((∀ {α : Type} {a : α} {l : List α}, (a :: l).tail = l) /\
 (∀ {a : Dv} {l : List Dv}, cc (a :: l) 0 = a))) /\
 ((∀ {a b : Dv} {l : List Dv}, cc (a :: b :: l) 1 = b) /\
 ((∀ {a b c : Dv} {l : List Dv}, cc (a :: b :: c :: l) 2 = c) /\
 (∀ (p : Prop), (False /\ p) = False))))) /\
 ((((∀ (p : Prop), (p /\ False) = False) /\
 (((¬False) = True) /\
 ((¬True) = False))) /\
 ((∀ (p : Prop), (False -> p) = True) /\
 ((∀ (α : Prop), (∀ (a : α), True) = True) /\
 (∀ (p : Prop), (p /\ True) = p)))) /\
 (((∀ (p : Prop), (True /\ p) = p) /\
 (((true = false) = False) /\
 ((false = true) = False))) /\
 (((∀ (b : Bool), ((!b) = true) = (b = false)) /\
 (∀ (b : Bool), ((!b) = false) = (b = true))) /\
 (((!true) = false) /\
 ((!false) = true)))))))) :=
 ⟨⟨⟨⟨⟨⟨@bO, ⟨@z7, @Kk⟩⟩, ⟨@vI, ⟨@afE, @agJ⟩⟩⟩, ⟨⟨@agD, ⟨@B5, @sI⟩⟩, ⟨@On, ⟨@Vi, @Yx⟩⟩⟩⟩, ⟨⟨⟨@WN, ⟨@U4, @ad0⟩⟩, ⟨@Vj, ⟨@abj, @xX⟩⟩⟩, ⟨⟨@U8, ⟨@Y9, @X8⟩⟩, ⟨@RI, ⟨@Pf, @aam⟩⟩⟩⟩⟩, ⟨⟨⟨⟨@abR, ⟨@adS, @VC⟩⟩, ⟨@agU, ⟨@afA, @ab1⟩⟩⟩, ⟨⟨@HL, ⟨@aga, @agr⟩⟩, ⟨@af5, ⟨@aa3, @Zy⟩⟩⟩⟩, ⟨⟨⟨@aaE, ⟨@agd, @UM⟩⟩, ⟨@XR, ⟨@YY, @Wl⟩⟩⟩, ⟨⟨@YW, ⟨@ZN, @aem⟩⟩, ⟨⟨@ad1, @abX⟩, ⟨@RO, @Ui⟩⟩⟩⟩⟩⟩, ⟨⟨⟨⟨⟨@RS, ⟨@Pm, @afP⟩⟩, ⟨@afL, ⟨@agL, @afx⟩⟩⟩, ⟨⟨@af8, ⟨@agl, @afv⟩⟩, ⟨@agn, ⟨@afD, @OQ⟩⟩⟩⟩, ⟨⟨⟨@T_i, ⟨@acL, @I_i⟩⟩, ⟨@B_b, ⟨@S_s, @PI⟩⟩⟩, ⟨⟨@adZ, ⟨@ac0, @Gi⟩⟩, ⟨⟨@Int.toNat_natCast, @Int.toNat_zero⟩, ⟨@decide_eq_true_eq, @decide_eq_false_iff_not⟩⟩⟩⟩⟩, ⟨⟨⟨⟨@beq_iff_eq, ⟨@beq_eq_false_iff_ne, @List.head?_nil⟩⟩, ⟨@List.head?_cons, ⟨@Option.getD_none, @Option.getD_some⟩⟩⟩, ⟨⟨@List.headD_cons, ⟨@List.tail_cons, @af2⟩⟩, ⟨@afS, ⟨@af7, @false_and⟩⟩⟩⟩, ⟨⟨⟨@and_false, ⟨@not_false_eq_true, @not_true_eq_false⟩⟩, ⟨@false_implies, ⟨@implies_true, @and_true⟩⟩⟩, ⟨⟨@true_and, ⟨@Bool.true_eq_false, @Bool.false_eq_true⟩⟩, ⟨⟨@Bool.not_eq_true', @Bool.not_eq_false'⟩, ⟨@Bool.not_true, @Bool.not_false⟩⟩⟩⟩⟩⟩⟩
end Go.Sx
namespace Go.Proofs.YtdlppkhmmclipaaGreat.sxObj
open Go.Sx Go.RowKit Go.Proofs.YtdlppkhmmclipaaGreat
set_option linter.unusedVariables false
set_option linter.unusedSimpArgs false
abbrev Row := List Dv
def iP (ns name : ByteArray) : ByteArray := if ns.size = 0 then name else ns ++ ⟨#[47]⟩ ++ name
def kO (r : Row) : ByteArray := iP (cc r 0).S (cc r 1).S
def bad (r : Row) : Bool := (cc r 6).B
def kS (r : Row) : ByteArray := if bad r = true then ⟨#[]⟩ else kO r
def kl (r : Row) : List UInt8 := (kS r).toList
def eight (r : Row) : Row := [cc r 0, cc r 1, cc r 2, cc r 3, cc r 4, cc r 5, cc r 6, cc r 7]
def nine (r : Row) : Row := [cc r 0, cc r 1, cc r 2, cc r 3, cc r 4, cc r 5, cc r 6, cc r 7, .i 0]
def lk (r : Row) : Row := [.t [nine r]]
def m0 (r : Row) : Row := eight (row (cc r 0) 0)
def Qf (ns name lab : Dv) : Prop := ns.S.size <= 2147483647 /\ name.S.size <= 2147483647 /\ lab.T.length <= 2147483647
def iD (r : Row) : Prop := Qf (cc r 0) (cc r 1) (cc r 4)
def ew (l : List Row) : Prop := ∀ r ∈ l, iD r
def Kp (l : Dv) (k : ByteArray) (j : Nat) : Bool := !cA (kS (row l j)) k
def iJ (l : Dv) (k : ByteArray) : Nat := stop (Kp l k) l.T.length
def gF (l : Dv) (k : ByteArray) : Bool := decide (iJ l k < l.T.length) && ((kS (row l (iJ l k))).toList == k.toList)
def fN (l : Dv) (k : ByteArray) (o : Row) : List Row := l.T.take (iJ l k) ++ o :: l.T.drop (if gF l k = true then iJ l k + 1 else iJ l k)
def b8 (l : Dv) (k : ByteArray) : List Row := if gF l k = true then l.T.take (iJ l k) ++ l.T.drop (iJ l k + 1) else l.T
def bW (r : Row) : Row := [.s (kS r)]
def oD (l : List Row) : Prop := (l.Pairwise fun a b => kl a < kl b) /\ ∀ r ∈ l, bad r = false
def dn (lo hi : Int) : Nat -> Int
 | 0 => hi
 | n + 1 => if lo < dn lo hi n then (lo + dn lo hi n).tdiv 2 else dn lo hi n
def up (lo hi : Int) : Nat -> Int
 | 0 => lo
 | n + 1 => if up lo hi n < hi then (up lo hi n + hi).tdiv 2 + 1 else up lo hi n
theorem half {a b : Int} (h0 : 0 <= a) (h : a < b) : a <= (a + b).tdiv 2 /\ (a + b).tdiv 2 < b := by
 rw [Int.tdiv_eq_ediv_of_nonneg (by omega)]
 omega
theorem N6 {lo hi : Int} (h0 : 0 <= lo) (h : lo <= hi) : ∀ n : Nat, lo <= dn lo hi n /\ dn lo hi n <= hi /\ (lo < dn lo hi n -> dn lo hi n <= hi - n)
 | 0 => ⟨h, Int.le_refl _, fun _ => by show hi <= hi - ((0 : Nat) : Int); omega⟩
 | n + 1 => by
   obtain ⟨h1, h2, h3⟩ := N6 h0 h n; unfold dn; split
   ·rename_i hl; have := half h0 hl; have := h3 hl; refine ⟨by omega, by omega, fun _ => by omega⟩
   ·exact ⟨h1, h2, fun hh => by omega⟩
theorem KI {lo hi : Int} (h0 : 0 <= lo) (h : lo <= hi) : ∀ n : Nat, lo <= up lo hi n /\ up lo hi n <= hi /\ (up lo hi n < hi -> lo + n <= up lo hi n)
 | 0 => ⟨Int.le_refl _, h, fun _ => by show lo + ((0 : Nat) : Int) <= lo; omega⟩
 | n + 1 => by
   obtain ⟨h1, h2, h3⟩ := KI h0 h n; unfold up; split
   ·rename_i hl; have := half (by omega) hl
    have := h3 hl; refine ⟨by omega, by omega, fun _ => by omega⟩
   ·exact ⟨h1, h2, fun hh => by omega⟩
noncomputable def gN (Q : Nat -> Prop) (n : Nat) : Nat := stop (fun j => !dec (Q j)) n
def ep (Q : Nat -> Prop) (n : Nat) : Prop := ∀ j, j < n -> Q j
theorem xj {Q : Nat -> Prop} {n r : Nat} (hr : r <= gN Q n) (hl : r < n) (h : Q r) : r < gN Q n := sC hr hl (by simp [aw.2 h])
theorem iB {Q : Nat -> Prop} {n r : Nat} (hl : r < n) (h : ¬ Q r) : ¬ ep Q n := fun hg => h (hg r hl)
theorem r6 {Q : Nat -> Prop} {n r : Nat} (hr : r <= gN Q n) (hl : ¬ r < n) : ep Q n := fun j hj => by
 have hj' : j < stop (fun j => !dec (Q j)) n := by unfold gN at hr; omega
 have h2 := bP hj'; have h3 : dec (Q j) = true := by simpa using h2
 exact aw.1 h3
theorem da {p : Prop} : dec p = false ↔ ¬ p := by
 rw [<- Bool.not_eq_true, aw]
theorem uz {p : Prop} : false = dec p ↔ ¬ p := eq_comm.trans da
theorem uB {p : Prop} : true = dec p ↔ p := eq_comm.trans aw
theorem GO {q : Prop} {_ : Decidable q} {p : Prop} : decide q = dec p ↔ (q ↔ p) := by
 by_cases hp : p
 ·rw [aw.2 hp]; simp [hp]
 ·rw [da.2 hp]; simp [hp]
theorem adG {b : Bool} {p : Prop} : (!b) = dec p ↔ (b = false ↔ p) := by
 by_cases hp : p
 ·rw [aw.2 hp]; simp [hp]
 ·rw [da.2 hp]; simp [hp]
def Lp (l a b : Dv) (j : Nat) : Bool := ((cc (row l j) 0).S.toList == a.S.toList) && ((cc (row l j) 1).S.toList == b.S.toList)
def Kn (l a b : Dv) : Nat := stop (Lp l a b) l.T.length
def WQ (r : Row) : Prop := ew (cc r 2).T /\ (cc r 2).T.length <= 2147483647 /\ (cc r 3).T.length <= 2147483647
def q7 (l : Dv) (j : Nat) : Prop := (cc (row l j) 0).S.size <= 2147483647 /\ (cc (row l j) 1).S.size <= 2147483647
def Ia (l : Dv) : Prop := ep (q7 l) l.T.length /\ l.T.length <= 2147483647
def JN (a b c d e f : Dv) : Prop := a.S.size <= 2147483647 /\ b.S.size <= 2147483647 /\ c.S.size <= 2147483647 /\ d.S.size <= 2147483647 /\ Ia e /\ f.S.size <= 2147483647
def q5 (l : Dv) (j : Nat) : Prop := JN (cc (row l j) 0) (cc (row l j) 1) (cc (row l j) 2) (cc (row l j) 3) (cc (row l j) 4) (cc (row l j) 5)
def sV (l : Dv) : Prop := ep (q5 l) l.T.length /\ l.T.length <= 2147483647
def q35 (l : Dv) (j : Nat) : Prop := JN (cc (row l j) 1) (cc (row l j) 2) (cc (row l j) 3) (cc (row l j) 4) (cc (row l j) 5) (cc (row l j) 6) /\ sV (cc (row l j) 9)
def Y4 (l : Dv) : Prop := ep (q35 l) l.T.length /\ l.T.length <= 2147483647
def qd (l k : Dv) (j : Nat) : Prop := ¬ (cc (row l j) 0).S.toList = k.S.toList
def qp (l : Dv) (j : Nat) : Prop := (cc (row l j) 0).S.size <= 40 /\ (cc (row l j) 1).S.size <= 40 /\ ep (qd (.t (l.T.take j)) (cc (row l j) 0)) (l.T.take j).length
def vr (l : Dv) : Prop := ep (qp l) l.T.length /\ l.T.length <= 6
def qs (s : Dv) (j : Nat) : Prop := ¬ (((s.S.data[j]?.getD 0).toNat : Nat) : Int) = 47
def Ya (s : Dv) : Prop := ep (qs s) s.S.size
def small (a b c d e f h : Dv) : Prop := Ya a /\ Ya b /\ a.S.size <= 20 /\ b.S.size <= 20 /\ c.S.size <= 20 /\ d.S.size <= 20 /\ f.S.size <= 40 /\ e.T.length <= 4 /\ vr e /\ h.B = false /\ ¬ b.S.toList = []
def Zg (l : Dv) (j : Nat) : Prop := small (cc (row l j) 0) (cc (row l j) 1) (cc (row l j) 2) (cc (row l j) 3) (cc (row l j) 4) (cc (row l j) 5) (cc (row l j) 7)
def vA (l : Dv) : Prop := ep (Zg l) l.T.length /\ l.T.length <= 20
def qex (l : Dv) (j : Nat) : Prop := 1 <= (cc (row l j) 0).I /\ (cc (row l j) 0).I <= 7 /\ small (cc (row l j) 1) (cc (row l j) 2) (cc (row l j) 3) (cc (row l j) 4) (cc (row l j) 5) (cc (row l j) 6) (cc (row l j) 8) /\ vA (cc (row l j) 9) /\ 0 <= (cc (row l j) 10).I /\ (cc (row l j) 10).I <= 1099511627776
def UA (l : Dv) : Prop := ep (qex l) l.T.length /\ l.T.length <= 80
def qfi (l : Dv) (j : Nat) : Prop := (cc (row l j) 9).T.length <= 20 /\ 0 <= (cc (row l j) 10).I /\ (cc (row l j) 10).I <= 1099511627776
def V4 (l : Dv) : Prop := ep (qfi l) l.T.length /\ l.T.length <= 400
def atV (m : Dv) (k : ByteArray) : Int := if 0 <= aP .s (.s k) m.T then (cc (row m (aP .s (.s k) m.T).toNat) 1).I else 0
def TT (m : Dv) (now ttl : Int) (k : ByteArray) : Prop := 0 < ttl /\ ttl < now - atV m k
def acC (only : Dv) (all : Bool) (k : ByteArray) : Prop := all = true \/ k.toList = only.S.toList
def RM (l m : Dv) (now ttl : Int) (only : Dv) (all : Bool) (j : Nat) : Prop := acC only all (kS (row l j)) /\ ¬ TT m now ttl (kS (row l j))
noncomputable def Zx (l m : Dv) (now ttl : Int) (only : Dv) (all : Bool) (n : Nat) : List Nat := (List.range n).filter fun j => dec (RM l m now ttl only all j)
noncomputable def Br (l m : Dv) (now ttl : Int) (only : Dv) (all : Bool) : List Row := (Zx l m now ttl only all l.T.length).map (row l)
noncomputable def Jb (l m : Dv) (now ttl : Int) (only : Dv) (all : Bool) : Nat -> List Row
 | 0 => l.T
 | n + 1 => if dec (acC only all (kS (row l n)) /\ TT m now ttl (kS (row l n))) = true then b8 (.t (Jb l m now ttl only all n)) (kS (row l n)) else Jb l m now ttl only all n
def Im (m : Dv) : Prop := ∀ r ∈ m.T, 0 <= (cc r 1).I /\ (cc r 1).I <= 1125899906842624
def zB (l : Dv) : Nat -> List Row
 | 0 => []
 | n + 1 => fN (.t (zB l n)) (iP (cc (row l n) 0).S (cc (row l n) 1).S) (eight (row l n))
def qb (l : Dv) (j : Nat) : Prop := (cc (row l j) 6).B = false
def atT (ks m now : Dv) : Nat -> List Row
 | 0 => m.T
 | n + 1 => jB .s (atT ks m now n) [cc (row ks n) 0, now]
structure Sp where
 now : Int
 S : List Row
 M : List Row
def du (p : Row) : Row := [cc p 1, cc p 2, cc p 3, cc p 4, cc p 5, cc p 6, cc p 7, cc p 8]
def bj (p : Row) : ByteArray := iP (cc p 1).S (cc p 2).S
def aW (err : Int) (ok : Bool) (bk keys : List Row) : Row := [.i err, .b ok, .t bk, .t keys, .s ⟨[].toArray⟩, .t []]
noncomputable def L9 (ttl : Int) (p : Row) (s : Sp) : Sp × Row :=
 if ((cc p 0).I = 1 \/ (cc p 0).I = 2 \/ (cc p 0).I = 4) /\ (cc p 7).B = true then (s, aW 1 false [] [])
 else if (cc p 0).I = 1 then (⟨s.now, fN (.t s.S) (bj p) (du p), jB .s s.M [.s (bj p), .i s.now]⟩, aW 0 false [] [])
 else if (cc p 0).I = 2 then (⟨s.now, b8 (.t s.S) (bj p), s.M⟩, aW 0 false [] [])
 else if (cc p 0).I = 3 then
  (if dec (ep (qb (cc p 9)) (cc p 9).T.length) = true then (⟨s.now, zB (cc p 9) (cc p 9).T.length, atT (.t ((zB (cc p 9) (cc p 9).T.length).map bW)) (.t s.M) (.i s.now) (zB (cc p 9) (cc p 9).T.length).length⟩, aW 0 false [] [])
  else (s, aW 1 false [] []))
 else if (cc p 0).I = 4 then (⟨s.now, Jb (.t s.S) (.t s.M) s.now ttl (.s (bj p)) false s.S.length, s.M⟩, aW 0 (decide (0 < (Br (.t s.S) (.t s.M) s.now ttl (.s (bj p)) false).length)) (Br (.t s.S) (.t s.M) s.now ttl (.s (bj p)) false) [])
 else if (cc p 0).I = 5 then (⟨s.now, Jb (.t s.S) (.t s.M) s.now ttl (.s ⟨[].toArray⟩) true s.S.length, s.M⟩, aW 0 false (Br (.t s.S) (.t s.M) s.now ttl (.s ⟨[].toArray⟩) true) [])
 else if (cc p 0).I = 6 then (s, aW 0 false [] (s.S.map bW))
 else if (cc p 0).I = 7 then (⟨s.now + (cc p 10).I, s.S, s.M⟩, aW 0 false [] [])
 else (s, aW 0 false [] [])
noncomputable def Gw (ops : Dv) (ttl : Int) : Nat -> Sp
 | 0 => ⟨0, [], []⟩
 | n + 1 => (L9 ttl (row ops n) (Gw ops ttl n)).1
noncomputable def WH (ops : Dv) (ttl : Int) : List Row := (List.range ops.T.length).map fun n => (L9 ttl (row ops n) (Gw ops ttl n)).2
noncomputable def LR (c : Nat) (d : Dv) : Dv :=
 match c with
 | 100 => .s (iP (ar d 0).S (ar d 1).S)
 | 101 => .t ((ar d 0).T.map lk)
 | 102 => .t ((ar d 0).T.map m0)
 | 103 => .t ((ar d 0).T.map bW)
 | 104 => .i (iJ (ar d 0) (ar d 1).S : Nat)
 | 105 => .b (gF (ar d 0) (ar d 1).S)
 | 106 => .t (eL (ar d 0).T)
 | 107 => .t (fN (ar d 0) (iP (ar d 1).S (ar d 2).S) [ar d 1, ar d 2, ar d 3, ar d 4, ar d 5, ar d 6, ar d 7, ar d 8])
 | 108 => .t (b8 (ar d 0) (ar d 1).S)
 | 110 => .b (dec (Qf (ar d 0) (ar d 1) (ar d 2)))
 | 111 => .b (dec (ew (ar d 0).T))
 | 112 => .b (dec (oD (ar d 0).T))
 | 113 => .b (dec (oD ((ar d 0).T.map m0) /\ ew ((ar d 0).T.map m0)))
 | 121 => .i (dn (ar d 0).I (ar d 1).I (ar d 2).I.toNat)
 | 122 => .i (up (ar d 0).I (ar d 1).I (ar d 2).I.toNat)
 | 123 => .i (20 * 2 ^ (ar d 0).I.toNat)
 | 130 => .i (Kn (ar d 0) (ar d 1) (ar d 2) : Nat)
 | 131 => .b (decide (Kn (ar d 0) (ar d 1) (ar d 2) < (ar d 0).T.length))
 | 132 => .b (dec (∀ r ∈ (ar d 0).T, WQ r))
 | 133 => .b (dec (¬ ep (q7 (ar d 0)) (ar d 0).T.length))
 | 134 => .i (gN (q7 (ar d 0)) (ar d 0).T.length : Nat)
 | 135 => .b (dec (Ia (ar d 0)))
 | 136 => .b (dec (JN (ar d 0) (ar d 1) (ar d 2) (ar d 3) (ar d 4) (ar d 5)))
 | 137 => .b (dec (¬ ep (q5 (ar d 0)) (ar d 0).T.length))
 | 138 => .i (gN (q5 (ar d 0)) (ar d 0).T.length : Nat)
 | 139 => .b (dec (sV (ar d 0)))
 | 140 => .b (dec (¬ ep (q35 (ar d 0)) (ar d 0).T.length))
 | 141 => .i (gN (q35 (ar d 0)) (ar d 0).T.length : Nat)
 | 142 => .b (dec (Y4 (ar d 0)))
 | 143 => .b (dec (¬ ep (qd (ar d 0) (ar d 1)) (ar d 0).T.length))
 | 144 => .i (gN (qd (ar d 0) (ar d 1)) (ar d 0).T.length : Nat)
 | 145 => .b (dec (¬ ep (qp (ar d 0)) (ar d 0).T.length))
 | 146 => .i (gN (qp (ar d 0)) (ar d 0).T.length : Nat)
 | 147 => .b (dec (vr (ar d 0)))
 | 148 => .b (dec (¬ ep (qs (ar d 0)) (ar d 0).S.size))
 | 149 => .i (gN (qs (ar d 0)) (ar d 0).S.size : Nat)
 | 150 => .b (dec (small (ar d 0) (ar d 1) (ar d 2) (ar d 3) (ar d 4) (ar d 5) (ar d 7)))
 | 151 => .b (dec (¬ ep (Zg (ar d 0)) (ar d 0).T.length))
 | 152 => .i (gN (Zg (ar d 0)) (ar d 0).T.length : Nat)
 | 153 => .b (dec (vA (ar d 0)))
 | 154 => .b (dec (¬ ep (qex (ar d 0)) (ar d 0).T.length))
 | 155 => .i (gN (qex (ar d 0)) (ar d 0).T.length : Nat)
 | 156 => .b (dec (UA (ar d 0)))
 | 160 => .t (Br (ar d 0) (ar d 1) (ar d 2).I (ar d 3).I (ar d 4) (ar d 5).B)
 | 161 => .i ((Zx (ar d 0) (ar d 1) (ar d 2).I (ar d 3).I (ar d 4) (ar d 5).B (ar d 6).I.toNat).length : Nat)
 | 162 => .t (Jb (ar d 0) (ar d 1) (ar d 2).I (ar d 3).I (ar d 4) (ar d 5).B (ar d 6).I.toNat)
 | 163 => .t (Jb (ar d 0) (ar d 1) (ar d 2).I (ar d 3).I (ar d 4) (ar d 5).B (ar d 0).T.length)
 | 164 => .b (dec (Im (ar d 0)))
 | 165 => .t (zB (ar d 0) (ar d 1).I.toNat)
 | 166 => .b (dec (¬ ep (qb (ar d 0)) (ar d 0).T.length))
 | 167 => .i (gN (qb (ar d 0)) (ar d 0).T.length : Nat)
 | 168 => .t (zB (ar d 0) (ar d 0).T.length)
 | 169 => .t (atT (ar d 0) (ar d 1) (ar d 2) (ar d 3).I.toNat)
 | 170 => .i (Gw (ar d 0) (ar d 1).I (ar d 2).I.toNat).now
 | 171 => .t (Gw (ar d 0) (ar d 1).I (ar d 2).I.toNat).S
 | 172 => .t (Gw (ar d 0) (ar d 1).I (ar d 2).I.toNat).M
 | 173 => .t (WH (ar d 0) (ar d 1).I)
 | 174 => .b (dec (V4 (ar d 0)))
 | _ => .i 0
def OU (o : Env) : Prop := ∀ c d, 100 <= c -> c < 200 -> o.uf c d = LR c d
theorem OU.of {o : Env} (h : ∀ c d, 100 <= c -> c < 200 -> o.uf c d = LR c d) : OU o := h
theorem OU.aE {o o' : Env} (h : OU o) (e : o'.uf = o.uf) : OU o' := fun c d h1 h2 => by rw [e]; exact h c d h1 h2
section
variable {o : Env} (h : OU o) (d : Dv)
include h
theorem OU.Rr : o.uf 130 d = .i (Kn (ar d 0) (ar d 1) (ar d 2) : Nat) := h 130 d (by decide) (by decide)
theorem OU.aeq : o.uf 131 d = .b (decide (Kn (ar d 0) (ar d 1) (ar d 2) < (ar d 0).T.length)) := h 131 d (by decide) (by decide)
theorem OU.aa5 : o.uf 133 d = .b (dec (¬ ep (q7 (ar d 0)) (ar d 0).T.length)) := h 133 d (by decide) (by decide)
theorem OU.U3 : o.uf 134 d = .i (gN (q7 (ar d 0)) (ar d 0).T.length : Nat) := h 134 d (by decide) (by decide)
theorem OU.acO : o.uf 135 d = .b (dec (Ia (ar d 0))) := h 135 d (by decide) (by decide)
theorem OU.Jr : o.uf 136 d = .b (dec (JN (ar d 0) (ar d 1) (ar d 2) (ar d 3) (ar d 4) (ar d 5))) := h 136 d (by decide) (by decide)
theorem OU.aa1 : o.uf 137 d = .b (dec (¬ ep (q5 (ar d 0)) (ar d 0).T.length)) := h 137 d (by decide) (by decide)
theorem OU.X0 : o.uf 138 d = .i (gN (q5 (ar d 0)) (ar d 0).T.length : Nat) := h 138 d (by decide) (by decide)
theorem OU.RC : o.uf 139 d = .b (dec (sV (ar d 0))) := h 139 d (by decide) (by decide)
theorem OU.aay : o.uf 143 d = .b (dec (¬ ep (qd (ar d 0) (ar d 1)) (ar d 0).T.length)) := h 143 d (by decide) (by decide)
theorem OU.Xv : o.uf 144 d = .i (gN (qd (ar d 0) (ar d 1)) (ar d 0).T.length : Nat) := h 144 d (by decide) (by decide)
theorem OU.abv : o.uf 145 d = .b (dec (¬ ep (qp (ar d 0)) (ar d 0).T.length)) := h 145 d (by decide) (by decide)
theorem OU.X4 : o.uf 146 d = .i (gN (qp (ar d 0)) (ar d 0).T.length : Nat) := h 146 d (by decide) (by decide)
theorem OU.Zw : o.uf 147 d = .b (dec (vr (ar d 0))) := h 147 d (by decide) (by decide)
theorem OU.adf : o.uf 148 d = .b (dec (¬ ep (qs (ar d 0)) (ar d 0).S.size)) := h 148 d (by decide) (by decide)
theorem OU.Yr : o.uf 149 d = .i (gN (qs (ar d 0)) (ar d 0).S.size : Nat) := h 149 d (by decide) (by decide)
theorem OU.V8 : o.uf 150 d = .b (dec (small (ar d 0) (ar d 1) (ar d 2) (ar d 3) (ar d 4) (ar d 5) (ar d 7))) := h 150 d (by decide) (by decide)
theorem OU.ads : o.uf 151 d = .b (dec (¬ ep (Zg (ar d 0)) (ar d 0).T.length)) := h 151 d (by decide) (by decide)
theorem OU.U5 : o.uf 152 d = .i (gN (Zg (ar d 0)) (ar d 0).T.length : Nat) := h 152 d (by decide) (by decide)
theorem OU.aew : o.uf 153 d = .b (dec (vA (ar d 0))) := h 153 d (by decide) (by decide)
theorem OU.qE : o.uf 100 d = .s (iP (ar d 0).S (ar d 1).S) := h 100 d (by decide) (by decide)
theorem OU.Lg : o.uf 101 d = .t ((ar d 0).T.map lk) := h 101 d (by decide) (by decide)
theorem OU.JA : o.uf 102 d = .t ((ar d 0).T.map m0) := h 102 d (by decide) (by decide)
theorem OU.Nt : o.uf 104 d = .i (iJ (ar d 0) (ar d 1).S : Nat) := h 104 d (by decide) (by decide)
theorem OU.U9 : o.uf 105 d = .b (gF (ar d 0) (ar d 1).S) := h 105 d (by decide) (by decide)
theorem OU.Oq : o.uf 106 d = .t (eL (ar d 0).T) := h 106 d (by decide) (by decide)
theorem OU.mr : o.uf 110 d = .b (dec (Qf (ar d 0) (ar d 1) (ar d 2))) := h 110 d (by decide) (by decide)
theorem OU.Ab : o.uf 111 d = .b (dec (ew (ar d 0).T)) := h 111 d (by decide) (by decide)
theorem OU.aaz : o.uf 112 d = .b (dec (oD (ar d 0).T)) := h 112 d (by decide) (by decide)
theorem OU.JD : o.uf 113 d = .b (dec (oD ((ar d 0).T.map m0) /\ ew ((ar d 0).T.map m0))) := h 113 d (by decide) (by decide)
theorem OU.aax : o.uf 121 d = .i (dn (ar d 0).I (ar d 1).I (ar d 2).I.toNat) := h 121 d (by decide) (by decide)
theorem OU.Wt : o.uf 122 d = .i (up (ar d 0).I (ar d 1).I (ar d 2).I.toNat) := h 122 d (by decide) (by decide)
theorem OU.abB : o.uf 123 d = .i (20 * 2 ^ (ar d 0).I.toNat) := h 123 d (by decide) (by decide)
end
theorem qu (a b : ByteArray) : cA a b = decide (a.toList < b.toList) := bytesLess_eq _ _
theorem NB (l : Dv) (k : ByteArray) : iJ l k <= l.T.length := ln
end Go.Proofs.YtdlppkhmmclipaaGreat.sxObj
namespace Go.Proofs.YtdlppkhmmclipaaGreat.sxObj
open Go.Sx
set_option linter.unusedVariables false
abbrev OD : E := .v 7104
abbrev Zm : E := .o2 .lt (.v 2100) (.o1 .ab OD)
abbrev tW : E := .il 0
def AA : List (aa × List Ob) :=
 [(fT Zm [], oO (.o2 .seq (eC 0 OD (.v 2100)) (eC 0 OD tW)) (oO (.o2 .seq (eC 1 OD (.v 2100)) (eC 1 OD tW)) [])),
  (fF Zm [], oT tW OD [])]
def An : List (aa × List Ob) :=
 [(fT Zm [], []),
  (fF Zm [], oT (.o2 .de OD (.v 2100)) OD [])]
def zV : List (aa × List Ob) :=
 [([], oO (.o2 .le (.o1 .ab (.v 7114)) (.il 2147483647)) [])]
abbrev BX : E := .v 2101
abbrev Em : E := .v 7120
abbrev ob5 : E := .o2 .lt BX (.o1 .ab Em)
abbrev ob6 : E := eP (eC 0 Em BX) (eP (eC 1 Em BX) (eP (eC 2 Em BX) (eP (eC 3 Em BX) (eP (eC 4 Em BX) (eP (eC 5 Em BX) (eP (eC 6 Em BX) (eP (eC 7 Em BX) (eP tW tW))))))))
abbrev Zq : E := .uf 101 (eP Em tW)
def xK : List (aa × List Ob) :=
 [(fT ob5 [], oO (.uf 110 (eP (eC 0 Em BX) (eP (eC 1 Em BX) (eP (eC 4 Em BX) tW)))) (oT ob6 (eC 0 Zq tW) [])),
  (fF ob5 [], oT tW Zq [])]
def wG : List (aa × List Ob) :=
 [(fT ob5 [], oO (.uf 110 (eP (eC 0 Em BX) (eP (eC 1 Em BX) (eP (eC 4 Em BX) tW)))) (oT ob6 (eC 0 Zq BX) [])),
  (fF ob5 [], oO (.o2 .le BX (.o1 .ab Zq)) (oT (.o2 .de Zq BX) Zq []))]
def Eg : List (aa × List Ob) :=
 [([], [])]
abbrev SF : E := eC 4 (.v 7130) (.v 7131)
abbrev ob9 : E := .o2 .lt (.v 2102) (.o1 .ab SF)
def vM : List (aa × List Ob) :=
 [(fT ob9 [], oO (.o2 .seq (eC 0 SF (.v 2102)) (eC 0 SF tW)) (oO (.o2 .seq (eC 1 SF (.v 2102)) (eC 1 SF tW)) [])),
  (fF ob9 [], oT tW SF [])]
def v8 : List (aa × List Ob) :=
 [(fT ob9 [], []),
  (fF ob9 [], oT (.o2 .de SF (.v 2102)) SF [])]
def wx : List (aa × List Ob) :=
 [([], oO (.o2 .le (.o1 .ab (eC 4 (.v 7135) (.v 7136))) (.il 2147483647)) [])]
abbrev UJ : E := eC 6 (.v 7140) (.v 7141)
abbrev Om : E := eC 0 (.v 7140) (.v 7141)
abbrev adK : E := .o2 .lt tW (.o1 .size Om)
abbrev RN : E := eC 1 (.v 7140) (.v 7141)
abbrev Rb : E := .il 9223372036854775807
abbrev ZJ : E := .uf 100 (eP Om (eP RN tW))
def F0 : List (aa × List Ob) :=
 [(fT UJ [], []),
  (fT adK (fF UJ []), oO (.o2 .le (.o2 .add (.o1 .size (.o2 .cat Om (.sl [47]))) (.o1 .size RN)) Rb) (oO (.o2 .le (.o2 .add (.o1 .size Om) (.il 1)) Rb) (oO (.o2 .seq (.o2 .cat (.o2 .cat Om (.sl [47])) RN) ZJ) []))),
  (fF adK (fF UJ []), oO (.o2 .seq RN ZJ) [])]
def BK : List (aa × List Ob) :=
 [(fT (.v 7156) [], []),
  (fF (.v 7156) [], [])]
abbrev adQ : E := .uf 100 (eP (.v 7160) (eP (.v 7161) tW))
abbrev ZV : E := .o2 .cat (.v 7160) (.sl [47])
def vQ : List (aa × List Ob) :=
 [(fT (.v 7166) [], []),
  (fT (.o2 .seq (.v 7160) (.sl [])) (fF (.v 7166) []), oO (.o2 .seq (.v 7161) adQ) []),
  (fF (.o2 .seq (.v 7160) (.sl [])) (fF (.v 7166) []), oO (.o2 .le (.o2 .add (.o1 .size ZV) (.o1 .size (.v 7161))) Rb) (oO (.o2 .le (.o2 .add (.o1 .size (.v 7160)) (.il 1)) Rb) (oO (.o2 .seq (.o2 .cat ZV (.v 7161)) adQ) [])))]
abbrev p9 : E := .v 7170
abbrev oI : E := .v 2103
abbrev Xy : E := .o2 .lt oI (.o1 .ab p9)
abbrev ZQ : aa := fT (eC 6 p9 oI) (fT Xy [])
abbrev Jz : E := eP p9 (eP (.v 7171) tW)
abbrev aeb : List Ob := oO (.o2 .lt oI (.uf 104 Jz)) (oO (.uf 110 (eP (eC 0 p9 oI) (eP (eC 1 p9 oI) (eP (eC 4 p9 oI) tW)))) [])
abbrev WE : E := .o2 .lt (.uf 104 Jz) (.o1 .ab p9)
abbrev XF : E := .uf 100 (eP (eC 0 p9 oI) (eP (eC 1 p9 oI) tW))
abbrev aeP : aa := fF (eC 6 p9 oI) (fT Xy [])
def BU : List (aa × List Ob) :=
 [(fT (.o2 .slt (.sl []) (.v 7171)) ZQ, aeb),
  (fF (.o2 .slt (.sl []) (.v 7171)) ZQ, oO WE (oO (.uf 110 (eP (eC 0 p9 oI) (eP (eC 1 p9 oI) (eP (eC 4 p9 oI) tW)))) (oO (.o2 .aX oI (.uf 104 Jz)) (oO (.o2 .beq (.o2 .seq (.sl []) (.v 7171)) (.uf 105 Jz)) [])))),
  (fT (.o2 .slt XF (.v 7171)) aeP, aeb),
  (fF (.o2 .slt XF (.v 7171)) aeP, oO WE (oO (.uf 110 (eP (eC 0 p9 oI) (eP (eC 1 p9 oI) (eP (eC 4 p9 oI) tW)))) (oO (.o2 .aX oI (.uf 104 Jz)) (oO (.o2 .beq (.o2 .seq XF (.v 7171)) (.uf 105 Jz)) [])))),
  (fF Xy [], oO (.o1 .not WE) [])]
abbrev XN : E := eP (.v 7173) (eP (.v 7174) tW)
abbrev ab5 : E := .o2 .lt (.uf 104 XN) (.o1 .ab (.v 7173))
def xl : List (aa × List Ob) :=
 [(fT ab5 [], []),
  (fF ab5 [], oO (.o2 .aX (.o1 .ab (.v 7173)) (.uf 104 XN)) (oO (.o2 .beq (.bl false) (.uf 105 XN)) []))]
abbrev Rz : E := .o1 .ab (.v 7198)
abbrev Qh : E := .uf 106 (eP (.v 7198) tW)
def Gs : List (aa × List Ob) :=
 [(fT (.o2 .aX Rz tW) [], oT tW Qh []),
  (fF (.o2 .aX Rz tW) [], oO (.o2 .le Rz (.o1 .ab Qh)) (oT (.o2 .de Qh Rz) Qh []))]
end Go.Proofs.YtdlppkhmmclipaaGreat.sxObj
namespace Go.Proofs.YtdlppkhmmclipaaGreat.sxObj
open Go.Sx Go.RowKit Go.Proofs.YtdlppkhmmclipaaGreat
set_option linter.unusedVariables false
set_option linter.unusedSimpArgs false
set_option maxRecDepth 100000
theorem gw {l : Dv} (h : ew l.T) {n : Nat} (hn : n < l.T.length) : Qf (cc (row l n) 0) (cc (row l n) 1) (cc (row l n) 4) := h _ (fS hn)
theorem map_take {f : Row -> Row} {l : Dv} {r : Nat} (h : ¬ (r : Int) < (l.T.length : Int)) : (l.T.map f).take r = l.T.map f := e8 (by rw [List.length_map]; omega)
theorem wg {l : List Row} (h : ¬ (0 : Int) < (l.length : Int)) : l = [] := List.length_eq_zero_iff.1 (by omega)
section
variable {o : Env}
theorem Ft (hr : o.v 2100 = .i (0 : Nat)) : br o AA := by
 simp only [AA, al, av, and_true]
 and_intros
 all_goals intro h
 all_goals simp only [SS, implies_true, hr] at h ⊢
 exact (wg (by simpa using h)).symm
theorem EE {r : Nat} (hr : o.v 2100 = .i r) : br o An := by
 simp only [An, al, av, and_true]
 and_intros
 all_goals intro h
 all_goals simp only [SS, implies_true, hr] at h ⊢
 exact e8 (by omega)
theorem FM (hu : OU o) (hent : ma.aV.aB o) : br o zV := by
 simp only [zV, al, av, and_true]; intro _; simp only [ma, JY, vE, pk, List.foldr, Nat.reduceAdd, SS, implies_true, hu.mr] at hent ⊢; have := (aw.1 hent).2.2; omega
theorem CO (hu : OU o) (hr : o.v 2101 = .i (0 : Nat)) (hent : (lG.aV 0).aB o) : br o xK := by
 simp only [lG, JB, OA, aH, pk, List.foldr, SS, implies_true, hu.Ab] at hent; have hok := aw.1 hent.1; simp only [xK, al, av, and_true]
 and_intros
 all_goals intro h
 all_goals simp only [SS, implies_true, hr, hu.mr, hu.Lg] at h ⊢
 ·have hl : 0 < (o.v 7120).T.length := by omega
  refine ⟨aw.2 (gw hok hl), ?_⟩; rw [nB (by simpa using hl)]
  rfl
 ·have := wg (l := (o.v 7120).T) (by simpa using h)
  rw [this]; rfl
theorem Df (hu : OU o) {r : Nat} (hr : o.v 2101 = .i r) (hent : (lG.aV 0).aB o) (hle : (r : Int) <= ((aH (.v 7120)).den o).I) : br o wG := by
 simp only [lG, JB, OA, aH, pk, List.foldr, SS, implies_true, hu.Ab] at hent hle; have hok := aw.1 hent.1; simp only [wG, al, av, and_true]
 and_intros
 all_goals intro h
 all_goals simp only [SS, implies_true, hr, hu.mr, hu.Lg] at h ⊢
 ·have hl : r < (o.v 7120).T.length := by omega
  refine ⟨aw.2 (gw hok hl), ?_⟩; rw [nB (by simpa using hl)]
  rfl
 ·exact ⟨by rw [List.length_map]; omega, map_take h⟩
theorem CL (hr : o.v 2102 = .i (0 : Nat)) : br o vM := by
 simp only [vM, al, av, and_true]
 and_intros
 all_goals intro h
 all_goals simp only [SS, implies_true, hr] at h ⊢
 exact (wg (by simpa using h)).symm
theorem DZ {r : Nat} (hr : o.v 2102 = .i r) : br o v8 := by
 simp only [v8, al, av, and_true]
 and_intros
 all_goals intro h
 all_goals simp only [SS, implies_true, hr] at h ⊢
 exact e8 (by omega)
theorem DY (hu : OU o) (hent : iV.aV.aB o) : br o wx := by
 simp only [wx, al, av, and_true]; intro _; simp only [iV, JY, cE, pk, List.foldr, SS, implies_true, hu.mr] at hent ⊢; have := (aw.1 hent).2.2; omega
theorem IL (hu : OU o) (hent : ri.aV.aB o) : br o F0 := by
 simp only [ri, JY, cE, pk, List.foldr, SS, implies_true, hu.mr] at hent; have hs := aw.1 hent; have h1 := hs.1; have h2 := hs.2.1; have hz : (ByteArray.mk [47].toArray).size = 1 := rfl; simp only [F0, al, av, and_true]
 and_intros
 all_goals intro h
 all_goals simp only [SS, implies_true, hu.qE, ByteArray.size_append, hz] at h ⊢
 ·refine ⟨by omega, by omega, ?_⟩
  unfold iP; rw [if_neg (by omega)]
 ·unfold iP; rw [if_pos (by omega)]
theorem Es : br o BK := by
 simp only [BK, al, av, and_true]
 and_intros
 all_goals intro h
 all_goals simp only [SS, implies_true]
theorem CF (hu : OU o) (hent : j5.aV.aB o) : br o vQ := by
 simp only [j5, JY, vE, pk, List.foldr, Nat.reduceAdd, SS, implies_true, hu.mr] at hent; have hs := aw.1 hent; have h1 := hs.1; have h2 := hs.2.1; have hz : (ByteArray.mk [47].toArray).size = 1 := rfl; have he : (ByteArray.mk [].toArray).toList = [] := by rw [toList_data]
 have h0 : ∀ b : ByteArray, b.size = 0 ↔ b.toList = [] := fun b => by
  rw [toList_data]; show b.data.size = 0 ↔ _; rw [<- Array.length_toList, List.length_eq_zero_iff]
 simp only [vQ, al, av, and_true]
 and_intros
 all_goals intro h
 all_goals simp only [SS, implies_true, hu.qE, ByteArray.size_append, hz, he, <- h0] at h ⊢
 ·unfold iP; rw [if_pos h.1]
 ·refine ⟨by omega, by omega, ?_⟩
  unfold iP; rw [if_neg fun e => h.1 ((h0 _).1 e)]
theorem Dk {l : Dv} {k : ByteArray} {r : Nat} (hr : r <= iJ l k) (hl : r < l.T.length) (h : cA (kS (row l r)) k = true) : r < iJ l k := by
 refine sC hr hl ?_; unfold Kp; rw [h]; rfl
theorem Cz {l : Dv} {k : ByteArray} {r : Nat} (hr : r <= iJ l k) (hl : r < l.T.length) (h : cA (kS (row l r)) k = false) : r = iJ l k /\ iJ l k < l.T.length := by
 have hb : Kp l k r = true := by unfold Kp; rw [h]; rfl
 have hs := Dy hr hl hb; refine ⟨?_, hs⟩; rcases Nat.lt_or_ge r (iJ l k) with cW | hge
 ·have : Kp l k r = false := bP (n := l.T.length) cW; rw [hb] at this; cases this
 ·omega
theorem vl {l : Dv} {k : ByteArray} (h : iJ l k < l.T.length) : gF l k = ((kS (row l (iJ l k))).toList == k.toList) := by
 unfold gF; rw [decide_eq_true h]; rfl
theorem EF {r : Row} (h : (cc r 6).B = true) : kS r = ⟨#[]⟩ := by unfold kS bad; rw [if_pos h]
theorem rW {r : Row} (h : (cc r 6).B = false) : kS r = iP (cc r 0).S (cc r 1).S := by unfold kS bad; rw [if_neg (by rw [h]; simp)]; rfl
section
variable {o : Env}
theorem FN (hu : OU o) {r : Nat} (hr : o.v 2103 = .i r) (hent : (pI.aV 0).aB o) (hle : (r : Int) <= ((E.uf 104 P7).den o).I) : br o BU := by
 simp only [pI, OA, aH, P7, pk, List.foldr, SS, implies_true, hu.Ab, hu.Nt] at hent hle; have hok := aw.1 hent.1; have hmax := hent.2; have hle : r <= iJ (o.v 7170) (o.v 7171).S := by omega
 have hlen := NB (o.v 7170) (o.v 7171).S; have he : (ByteArray.mk [].toArray) = ⟨#[]⟩ := rfl; simp only [BU, al, av, and_true]
 and_intros
 all_goals intro h
 all_goals simp only [SS, implies_true, hr, hu.qE, hu.Nt, hu.U9, hu.mr, he] at h ⊢
 ·have hl : r < (o.v 7170).T.length := by omega
  have := Dk (k := (o.v 7171).S) hle hl (by rw [EF h.2.1]; exact h.1)
  exact ⟨by omega, aw.2 (gw hok hl)⟩
 ·have hl : r < (o.v 7170).T.length := by omega
  obtain ⟨h1, h2⟩ := Cz (k := (o.v 7171).S) hle hl (by rw [EF h.2.1]; exact h.1)
  refine ⟨by omega, aw.2 (gw hok hl), by omega, ?_⟩
  rw [vl h2, <- h1, EF h.2.1]
 ·have hl : r < (o.v 7170).T.length := by omega
  have := Dk (k := (o.v 7171).S) hle hl (by rw [rW h.2.1]; exact h.1)
  exact ⟨by omega, aw.2 (gw hok hl)⟩
 ·have hl : r < (o.v 7170).T.length := by omega
  obtain ⟨h1, h2⟩ := Cz (k := (o.v 7171).S) hle hl (by rw [rW h.2.1]; exact h.1)
  refine ⟨by omega, aw.2 (gw hok hl), by omega, ?_⟩
  rw [vl h2, <- h1, rW h.2.1]
 ·omega
theorem DJ (hu : OU o) : br o xl := by
 have hlen := NB (o.v 7173) (o.v 7174).S; simp only [xl, al, av, and_true]
 and_intros
 all_goals intro h
 all_goals simp only [SS, implies_true, hu.Nt, hu.U9] at h ⊢
 refine ⟨by omega, ?_⟩
 unfold gF; rw [decide_eq_false (by omega)]; rfl
theorem Bd {l : Dv} {k : ByteArray} (h : gF l k = true) : iJ l k < l.T.length := by
 unfold gF at h; rw [Bool.and_eq_true] at h; exact of_decide_eq_true h.1
theorem I0 (hu : OU o) : br o Gs := by
 simp only [Gs, al, av, and_true]
 and_intros
 all_goals intro h
 all_goals simp only [SS, implies_true, hu.Oq] at h ⊢
 ·have := wg (l := (o.v 7198).T) (by omega)
  rw [this]; simp [eL]
 ·exact ⟨by rw [yU]; omega, e8 (by rw [yU]; omega)⟩
end
end
end Go.Proofs.YtdlppkhmmclipaaGreat.sxObj
namespace Go.Proofs.YtdlppkhmmclipaaGreat
open Go Go.Shelf Go.Sx Go.Sort
def aZ : Ren :=
{
 f := fun x =>
  match x with
  | 190 => 69
  | 125 => 91
  | 258 => 90
  | 128 => 106
  | 129 => 107
  | 302 => 97
  | 303 => 98
  | 304 => 99
  | 305 => 100
  | 306 => 101
  | 307 => 102
  | 308 => 103
  | 309 => 104
  | 310 => 105
  | 333 => 110
  | 329 => 111
  | 330 => 112
  | 334 => 113
  | 335 => 114
  | 336 => 115
  | 344 => 117
  | n => n,
 t := fun x =>
  match x with
  | 31 => 34
  | 9 => 9
  | 3 => 3
  | 46 => 200
  | 0 => 0
  | 51 => 226
  | 53 => 228
  | 4 => 4
  | 183 => 219
  | 182 => 218
  | 131 => 40
  | 5 => 5
  | 218 => 233
  | 222 => 237
  | 228 => 239
  | 229 => 240
  | n => n,
 g := fun x =>
  have n := x;
  n }
theorem P8 : Lays.n190 Tryz.prog aZ :=
{ mixed := Eq.refl true, f125 := Eq.trans Tryz.func91 (congrArg some (Eq.refl (Body.n125 aZ))),
  f128 := Eq.trans Tryz.func106 (congrArg some (Eq.refl (Body.n128 aZ))),
  f129 := Eq.trans Tryz.func107 (congrArg some (Eq.refl (Body.n129 aZ))),
  f190 := Eq.trans Tryz.func69 (congrArg some (Eq.refl (Body.n190 aZ))),
  f258 := Eq.trans Tryz.func90 (congrArg some (Eq.refl (Body.n258 aZ))),
  f302 := Eq.trans Tryz.func97 (congrArg some (Eq.refl (Body.n302 aZ))),
  f303 := Eq.trans Tryz.func98 (congrArg some (Eq.refl (Body.n303 aZ))),
  f304 := Eq.trans Tryz.func99 (congrArg some (Eq.refl (Body.n304 aZ))),
  f305 := Eq.trans Tryz.func100 (congrArg some (Eq.refl (Body.n305 aZ))),
  f306 := Eq.trans Tryz.func101 (congrArg some (Eq.refl (Body.n306 aZ))),
  f307 := Eq.trans Tryz.func102 (congrArg some (Eq.refl (Body.n307 aZ))),
  f308 := Eq.trans Tryz.func103 (congrArg some (Eq.refl (Body.n308 aZ))),
  f309 := Eq.trans Tryz.func104 (congrArg some (Eq.refl (Body.n309 aZ))),
  f310 := Eq.trans Tryz.func105 (congrArg some (Eq.refl (Body.n310 aZ))),
  f329 := Eq.trans Tryz.func111 (congrArg some (Eq.refl (Body.n329 aZ))),
  f330 := Eq.trans Tryz.func112 (congrArg some (Eq.refl (Body.n330 aZ))),
  f333 := Eq.trans Tryz.func110 (congrArg some (Eq.refl (Body.n333 aZ))),
  f334 := Eq.trans Tryz.func113 (congrArg some (Eq.refl (Body.n334 aZ))),
  f335 := Eq.trans Tryz.func114 (congrArg some (Eq.refl (Body.n335 aZ))),
  f336 := Eq.trans Tryz.func115 (congrArg some (Eq.refl (Body.n336 aZ))),
  f344 := Eq.trans Tryz.func117 (congrArg some (Eq.refl (Body.n344 aZ))), t0 := Tryz.underlying0,
  a0 := Tryz.isAgg0, z0 := Tryz.sizeOf0, v0 := Tryz.zeroValue0, t3 := Tryz.underlying3, a3 := Tryz.isAgg3,
  z3 := Tryz.sizeOf3, v3 := Tryz.zeroValue3, t4 := Tryz.underlying4, a4 := Tryz.isAgg4, z4 := Tryz.sizeOf4,
  v4 := Tryz.zeroValue4, t5 := Tryz.underlying5, a5 := Tryz.isAgg5, z5 := Tryz.sizeOf5, v5 := Tryz.zeroValue5,
  t9 := Tryz.underlying9, a9 := Tryz.isAgg9, z9 := Tryz.sizeOf9, v9 := Tryz.zeroValue9, t31 := Tryz.underlying34,
  a31 := Tryz.isAgg34, z31 := Tryz.sizeOf34, v31 := Tryz.zeroValue34, t46 := Tryz.underlying200, a46 := Tryz.isAgg200,
  z46 := Tryz.sizeOf200, v46 := Tryz.zeroValue200, t51 := Tryz.underlying226, a51 := Tryz.isAgg226,
  z51 := Tryz.sizeOf226, v51 := Tryz.zeroValue226, t53 := Tryz.underlying228, a53 := Tryz.isAgg228,
  z53 := Tryz.sizeOf228, v53 := Tryz.zeroValue228, t131 := Tryz.underlying40, a131 := Tryz.isAgg40,
  z131 := Tryz.sizeOf40, v131 := Tryz.zeroValue40, t182 := Tryz.underlying218, a182 := Tryz.isAgg218,
  z182 := Tryz.sizeOf218, v182 := Tryz.zeroValue218, t183 := Tryz.underlying219, a183 := Tryz.isAgg219,
  z183 := Tryz.sizeOf219, v183 := Tryz.zeroValue219, t218 := Tryz.underlying233, a218 := Tryz.isAgg233,
  z218 := Tryz.sizeOf233, v218 := Tryz.zeroValue233, t222 := Tryz.underlying237, a222 := Tryz.isAgg237,
  z222 := Tryz.sizeOf237, v222 := Tryz.zeroValue237, t228 := Tryz.underlying239, a228 := Tryz.isAgg239,
  z228 := Tryz.sizeOf239, v228 := Tryz.zeroValue239, t229 := Tryz.underlying240, a229 := Tryz.isAgg240,
  z229 := Tryz.sizeOf240, v229 := Tryz.zeroValue240 }
theorem JJ (blk off cap : Nat) (ss : List (List UInt8)) (w : World) (hH : Holds encStr w blk off ss.toArray) (hb : blk < w.heap.size) (hl : ss.length < 4611686018427387904) :
    Calls Tryz.prog 69 #[.slice (some ⟨blk, off, none⟩) ss.length cap] w fun e w' => e = .returned (.tuple #[]) /\ ∃ n os, w' = grow (putRow encStr (Sort.ahead w n) blk off (ss.mergeSort leB).toArray) os :=
 Any.slices_Sort_string (ρ := aZ) P8 blk off cap ss w hH hb hl
end Go.Proofs.YtdlppkhmmclipaaGreat
namespace Go.Proofs.YtdlppkhmmclipaaGreat.sxObj
open Go.Sx Go.RowKit Go.Proofs.YtdlppkhmmclipaaGreat
set_option linter.unusedVariables false
set_option linter.unusedSimpArgs false
set_option maxRecDepth 100000
theorem plain : Plain Tryz.prog := NX (by kernel_rfl)
theorem mixed : Tryz.prog.follows .mixedOrders = true := by kernel_rfl
theorem bt {m : Nat} (h : Nat.beq m 0 = true) : m = 0 := Nat.eq_of_beq_eq_true h
theorem Eb {m : Nat} (h : Nat.beq m 1 = true) : m = 1 := Nat.eq_of_beq_eq_true h
theorem Pn (d : Dv) : ar d 0 = d.row.headD (.i 0) := by
 unfold ar cc row Dv.row; cases d.T with
 | nil => rfl
 | cons a l => cases a <;> rfl
section
variable {o : Env}
theorem kP {l : E} : ∀ e : Env, 0 <= ((aH l).den e).I := fun e => by
 show (0 : Int) <= (((l.den e).T.length : Nat) : Int); omega
theorem MD : IK Tryz.prog Aw (aH (.v 7104)) AA An := ⟨by kernel_rfl, by kernel_rfl, by kernel_rfl, rfl, rfl, by kernel_rfl, rfl, fun m h => bt h, fun m h => Eb h, fun _ => rfl⟩
theorem JX : eg Tryz.prog o kN 3 Aw.dB :=
 MD.ok plain mixed (fun o _ _ => kP o) (fun _ _ _ => cB) (fun o _ _ hr _ => Ft hr) (fun o i _ _ hr _ _ => EE hr)
theorem Mj : ma.jC Tryz.prog = some zV := by kernel_rfl
theorem tn (hu : OU o) : eV Tryz.prog o kN ma.bh :=
 cS plain mixed (D := ma) Mj (fun e A he => bN (c := ⟨[], [(kN, 3, Aw.dB)]⟩) (by kernel_rfl) trivial ⟨JX, trivial⟩ A) (fun e he h => FM (hu.aE he) h)
theorem IW : IK Tryz.prog lG (aH (.v 7120)) xK wG := ⟨by kernel_rfl, by kernel_rfl, by kernel_rfl, rfl, rfl, by kernel_rfl, rfl, fun m h => bt h, fun m h => Eb h, fun _ => rfl⟩
theorem EB (hu : OU o) : eg Tryz.prog o nb 3 lG.dB :=
 IW.ok plain mixed (fun o _ _ => kP o) (fun e A he => bN (c := ⟨[(kN, ma.bh)], []⟩) (by kernel_rfl) ⟨tn (hu.aE he), trivial⟩ trivial A) (fun e he h hr _ => CO (hu.aE he) hr h) (fun e i he h hr _ hl => Df (hu.aE he) hr h hl)
theorem IF : vk.jC Tryz.prog = some Eg := by kernel_rfl
theorem E8 (hu : OU o) : eV Tryz.prog o nb vk.bh :=
 cS plain mixed (D := vk) IF (fun e A he => bN (c := ⟨[], [(nb, 3, lG.dB)]⟩) (by kernel_rfl) trivial ⟨EB (hu.aE he), trivial⟩ A) (fun e he h => by simp only [Eg, al, av, and_true]; intro _; simp only [vI])
theorem JL : IK Tryz.prog vp (aH (cE x0 i0 4)) vM v8 := ⟨by kernel_rfl, by kernel_rfl, by kernel_rfl, rfl, rfl, by kernel_rfl, rfl, fun m h => bt h, fun m h => Eb h, fun _ => rfl⟩
theorem EU : eg Tryz.prog o iq 9 vp.dB :=
 JL.ok plain mixed (fun o _ _ => kP o) (fun _ _ _ => cB) (fun o _ _ hr _ => CL hr) (fun o i _ _ hr _ _ => DZ hr)
theorem Jd : iV.jC Tryz.prog = some wx := by kernel_rfl
theorem qO (hu : OU o) : eV Tryz.prog o iq iV.bh :=
 cS plain mixed (D := iV) Jd (fun e A he => bN (c := ⟨[], [(iq, 9, vp.dB)]⟩) (by kernel_rfl) trivial ⟨EU, trivial⟩ A) (fun e he h => DY (hu.aE he) h)
theorem Rk : ri.jC Tryz.prog = some F0 := by kernel_rfl
theorem vV (hu : OU o) : eV Tryz.prog o tM ri.bh := cS plain mixed (D := ri) Rk (fun _ _ _ => cB) (fun e he h => IL (hu.aE he) h)
theorem KU : qV.jC Tryz.prog = some BK := by kernel_rfl
theorem zl (hu : OU o) : eV Tryz.prog o tz qV.bh :=
 cS plain mixed (D := qV) KU (fun e A he => bN (c := ⟨[(kN, ma.bh), (tM, ri.bh)], []⟩) (by kernel_rfl) ⟨tn (hu.aE he), vV (hu.aE he), trivial⟩ trivial A) (fun e he h => Es)
theorem JF : j5.jC Tryz.prog = some vQ := by kernel_rfl
theorem v7 (hu : OU o) : eV Tryz.prog o pS j5.bh := cS plain mixed (D := j5) JF (fun _ _ _ => cB) (fun e he h => CF (hu.aE he) h)
theorem IP : iw Tryz.prog pI (.uf 104 P7) BU := ⟨by kernel_rfl, by kernel_rfl, rfl, by kernel_rfl, rfl, fun m h => bt h, fun m h => bt h, fun ν => by cases ν with | zero => rfl | succ n => cases n <;> rfl⟩
theorem FQ (hu : OU o) : eg Tryz.prog o lK 2 pI.dB :=
 IP.ok plain mixed (fun e he _ => by
  show 0 <= (e.uf 104 (P7.den e)).I; rw [(hu.aE he).Nt]
  exact Int.natCast_nonneg _) (fun e A he => bN (c := ⟨[(pS, j5.bh)], []⟩) (by kernel_rfl) ⟨v7 (hu.aE he), trivial⟩ trivial A) (fun e i he h hr hl => FN (hu.aE he) hr h hl)
theorem Jl : sq.jC Tryz.prog = some xl := by kernel_rfl
theorem Gk (hu : OU o) : eV Tryz.prog o lK sq.bh :=
 cS plain mixed (D := sq) Jl (fun e A he => bN (c := ⟨[], [(lK, 2, pI.dB)]⟩) (by kernel_rfl) trivial ⟨FQ (hu.aE he), trivial⟩ A) (fun e he h => DJ (hu.aE he))
theorem Xe : (NN DM).jC Tryz.prog = some [([], [])] := by kernel_rfl
theorem Cl (hu : OU o) : eV Tryz.prog o DM (zG 106) := Rn plain mixed Xe (fun blk off cap ss w a b c => JJ blk off cap ss w a b c) (fun d => by rw [hu.Oq d, Pn])
theorem R4 : GH.jC Tryz.prog = some Gs := by kernel_rfl
theorem Nd (hu : OU o) : eV Tryz.prog o Ni GH.bh :=
 cS plain mixed (D := GH) R4 (fun e A he => bN (c := ⟨[(DM, zG 106)], []⟩) (by kernel_rfl) ⟨Cl (hu.aE he), trivial⟩ trivial A) (fun e he h => I0 (hu.aE he))
end
def uU : SV := .fn (.func R6) [] []
def iS (e : E) : SV := .int .i64 e
def nk (l : E) : E × Bool := (.o2 .le (aH l) (.il 1000000), true)
def uL (l : E) : aa := [(.uf 112 (pk [l]), true), (OA l, true), nk l]
def cX (a b : E) : E × Bool := (.o2 .le a b, true)
def sX (a b : E) : E × Bool := (.o2 .lt a b, true)
def Q5 : cK where
 f := R6
 args := [.agg (qB (vE 7260)), .agg (qB (vE 7270))]
 params := me 7260 7268 ++ me 7270 7278
 aV := [(JY (vE 7260), true), (JY (vE 7270), true), (.v 7266, false), (.v 7276, false), (.o2 .slt (sW (vE 7260)) (sW (vE 7270)), false)]
 app := fun _ => true
 bz := [(.o2 .slt (sW (vE 7270)) (sW (vE 7260)), 1), (.bl true, 0)]
 kind := fun r => match r with | .int _ (.il 1) => some 1 | .int _ (.il 0) => some 0 | _ => none
 out := fun n => match n with | 0 => iS (.il 0) | _ => iS (.il 1)
 X := (⟨[(tz, qV.bh)], []⟩ : jw).x
 fuel := 300; np := 80
def IU : jw := ⟨[(R6, Q5.bh)], []⟩
def Oc : aa := uL (.v 7200) ++ [cX (.il 0) (.v 7201), cX (.v 7201) (.v 7202), cX (.v 7202) (aH (.v 7200))]
def LJ : aj where
 f := iW; key := 1; N := 53; r := 2110; base := 115000
 js := [9] ++ me 12 53
 hd := fun _ => ⟨[(0, .cg fW (.v 7200)), (1, iS (.v 7201)), (2, iS (.v 7202)), (3, uU), (8, iS (.o2 .add (.o2 .add (.v 7201) (.il 1)) (.v 2110)))], [], 9,
  cX (.il 0) (.v 2110) :: cX (.v 2110) (.o2 .sub (.v 7202) (.v 7201)) :: Oc⟩
 aV := fun _ => Oc
 app := fun _ => true
 nT := fun m => Nat.beq m 0
 dY := fun _ => .ret 0
 ml := fun m => Nat.beq m 0
 mf := fun _ => []
 hx := fun _ => ⟨[(0, .top), (1, .top), (2, .top), (3, .top), (8, .top)], [], 9, []⟩
 ur := fun _ _ => .ret 0
 oN := fun _ => .exit 0
 bz := [(.bl true, 0)]
 fixed := []
 lt := .o2 .lt (.v 2110) (.o2 .sub (.v 7202) (.v 7201))
 X := IU.x
 fuel := 400; np := 80
 params := [7200, 7201, 7202]
def FO : cK where
 f := iW
 args := [.cg fW (.v 7205), iS (.v 7206), iS (.v 7207), uU]
 params := [7205, 7206, 7207]
 aV := uL (.v 7205) ++ [cX (.il 0) (.v 7206), cX (.v 7206) (.v 7207), cX (.v 7207) (aH (.v 7205))]
 app := fun _ => true
 bz := [(.bl true, 0)]
 kind := fun _ => some 0
 out := fun _ => .fq []
 X := (⟨[], [(iW, 1, LJ.dB)]⟩ : jw).x
 fuel := 400; np := 80
def dnA (r : E) : E := .uf 121 (pk [.v 7212, .v 7213, r])
def Oa (l a m b : Nat) : aa := uL (.v l) ++ [cX (.il 0) (.v a), sX (.v a) (.v m), sX (.v m) (.v b), cX (.v b) (aH (.v l))]
def Mo (l a m : Nat) : aa := uL (.v l) ++ [cX (.il 0) (.v a), sX (.v a) (.v m), sX (.v m) (aH (.v l))]
def QK : aj where
 f := cG; key := 3; N := 220; r := 2111; base := 116000
 js := [12] ++ me 31 54
 hd := fun _ => ⟨[(0, .cg fW (.v 7210)), (1, iS (.v 7211)), (4, uU), (10, iS (.v 7212)), (11, iS (dnA (.v 2111)))], [], 9,
  cX (.il 0) (.v 2111) :: cX (.v 2111) (.o2 .sub (.v 7213) (.v 7212)) :: Oa 7210 7211 7212 7213⟩
 aV := fun _ => Oa 7210 7211 7212 7213
 app := fun _ => true
 nT := fun m => Nat.beq m 0
 dY := fun _ => .ret 0
 ml := fun m => Nat.beq m 0
 mf := fun _ => []
 hx := fun _ => ⟨[(0, .cg fW (.v 7210)), (1, iS (.v 7211)), (4, .top), (10, iS (.v 7212)), (11, .top)], [], 9, []⟩
 ur := fun _ _ => .ret 0
 oN := fun _ => .exit 0
 bz := [(.bl true, 0)]
 fixed := []
 lt := .o2 .lt (.v 2111) (.o2 .sub (.v 7213) (.v 7212))
 X := IU.x
 fuel := 400; np := 80
 params := [7210, 7211, 7212, 7213]
 pins := fun sl => match nth sl 11 with | some (.int _ e) => [(7213, e)] | _ => []
def upA (r : E) : E := .uf 122 (pk [.v 7216, .v 7217, r])
def Ri : aj where
 f := cG; key := 15; N := 220; r := 2112; base := 117000
 js := [16] ++ me 83 107
 hd := fun _ => ⟨[(0, .cg fW (.v 7215)), (2, iS (.v 7217)), (4, uU), (14, iS (upA (.v 2112))), (15, iS (.v 7217))], [], 9,
  cX (.il 0) (.v 2112) :: cX (.v 2112) (.o2 .sub (.v 7217) (.v 7216)) :: Mo 7215 7216 7217⟩
 aV := fun _ => Mo 7215 7216 7217
 app := fun _ => true
 nT := fun m => Nat.beq m 0
 dY := fun _ => .ret 0
 ml := fun m => Nat.beq m 0
 mf := fun _ => []
 hx := fun _ => ⟨[(0, .cg fW (.v 7215)), (2, iS (.v 7217)), (4, .top), (14, iS (.v 7217)), (15, .top)], [], 9, []⟩
 ur := fun _ _ => .ret 0
 oN := fun _ => .exit 4
 bz := [(.bl true, 0)]
 fixed := []
 lt := .o2 .lt (.v 2112) (.o2 .sub (.v 7217) (.v 7216))
 X := IU.x
 fuel := 400; np := 80
 params := [7215, 7216, 7217]
 pins := fun sl => match nth sl 14 with | some (.int _ e) => [(7216, e)] | _ => []
def up3 (r : E) : E := .uf 122 (pk [.v 7221, .v 7222, r])
def Te : aa := uL (.v 7220) ++ [cX (.il 0) (.v 7221), cX (.v 7221) (.v 7222), sX (.o2 .sub (.v 7223) (.v 7221)) (aH (.v 7220)), cX (.o2 .mul (.il 2) (.v 7222)) (.o2 .add (.v 7223) (.il 1))]
def P5 : aj where
 f := cG; key := 33; N := 220; r := 2113; base := 118000
 js := [23] ++ me 149 175
 hd := fun _ => ⟨[(0, .cg fW (.v 7220)), (4, uU), (20, iS (up3 (.v 2113))), (21, iS (.v 7222)), (22, iS (.v 7223))], [], 9,
  cX (.il 0) (.v 2113) :: cX (.v 2113) (.o2 .sub (.v 7222) (.v 7221)) :: Te⟩
 aV := fun _ => Te
 app := fun _ => true
 nT := fun m => Nat.beq m 0
 dY := fun _ => .ret 0
 ml := fun m => Nat.beq m 0
 mf := fun _ => []
 hx := fun _ => ⟨[(0, .cg fW (.v 7220)), (4, uU), (20, iS (.v 7222)), (21, .top), (22, iS (.v 7223))], [], 9, []⟩
 ur := fun _ _ => .ret 0
 oN := fun _ => .exit 8
 bz := [(.bl true, 0)]
 fixed := []
 lt := .o2 .lt (.v 2113) (.o2 .sub (.v 7222) (.v 7221))
 X := IU.x
 fuel := 400; np := 80
 params := [7220, 7221, 7222, 7223]
 pins := fun sl => match nth sl 20 with | some (.int _ e) => [(7221, e)] | _ => []
def Dz : cK where
 f := cG
 args := [.cg fW (.v 7225), iS (.v 7226), iS (.v 7227), iS (.v 7228), uU]
 params := [7225, 7226, 7227, 7228]
 aV := Oa 7225 7226 7227 7228
 app := fun args => match args with | [_, .int _ (.v 7226), .int _ (.v 7227), .int _ (.v 7228), _] => false | _ => true
 bz := [(.bl true, 0)]
 kind := fun _ => some 0
 out := fun _ => .fq []
 X := dF.none
 fuel := 600; np := 80
def De : E := .o2 .sub (.v 7228) (.v 7226)
def Ll (args : List SV) (nx : Nat) : Option (Prog (SV × Nat)) := some (.fail "never")
def Xk : jw := ⟨[(G0, Ll), (cG, (cK.AZ Dz 7229 De).bh)], [(cG, 3, QK.dB), (cG, 15, Ri.dB), (cG, 33, P5.dB)]⟩
def acZ : cK := cK.Hw Dz 7229 De Xk.x.Ba
def B3 (l n : Nat) : aa := uL (.v l) ++ [(.o2 .aX (.v n) (aH (.v l)), true)]
def EW (e : E) : E := .o2 .mul (.il 20) e
def KM : aj where
 f := fc; key := 2; N := 63; r := 2114; base := 119000
 js := me 11 23
 hd := fun _ => ⟨[(0, .cg fW (.v 7230)), (1, iS (.v 7231)), (2, uU), (6, iS (.il 20)), (7, iS (EW (.v 2114))), (8, iS (.o2 .add (EW (.v 2114)) (.il 20)))], [], 9,
  cX (.il 0) (.v 2114) :: cX (.v 2114) (.o2 .quo (.v 7231) (.il 20)) :: B3 7230 7231⟩
 aV := fun _ => B3 7230 7231
 app := fun _ => true
 nT := fun m => Nat.beq m 0
 dY := fun _ => .ret 0
 ml := fun m => Nat.beq m 0
 mf := fun _ => []
 hx := fun _ => ⟨[(0, .cg fW (.v 7230)), (1, iS (.v 7231)), (2, uU), (6, iS (.il 20)), (7, iS (EW (.o2 .quo (.v 7231) (.il 20)))), (8, .top)], [], 9, []⟩
 ur := fun _ _ => .ret 0
 oN := fun _ => .exit 0
 bz := [(.bl true, 0)]
 fixed := []
 lt := .o2 .lt (.v 2114) (.o2 .quo (.v 7231) (.il 20))
 X := (⟨[(iW, FO.bh)], []⟩ : jw).x
 fuel := 400; np := 80
 params := [7230, 7231]
def tw (e : E) : E := .o2 .mul (.o2 .mul (.il 2) (.v 7236)) e
def LP : aa := B3 7234 7235 ++ [cX (.il 20) (.v 7236), sX (.v 7236) (.v 7235)]
def Ew : E := .o2 .quo (.v 7235) (.o2 .mul (.il 2) (.v 7236))
def LA : aj where
 f := fc; key := 9; N := 63; r := 2115; base := 120000
 js := me 33 49
 hd := fun _ => ⟨[(0, .cg fW (.v 7234)), (1, iS (.v 7235)), (2, uU), (6, iS (.v 7236)), (7, iS (tw (.v 2115))), (8, iS (.o2 .add (tw (.v 2115)) (.o2 .mul (.il 2) (.v 7236))))], [], 9,
  cX (.il 0) (.v 2115) :: cX (.v 2115) Ew :: LP⟩
 aV := fun _ => LP
 app := fun _ => true
 nT := fun m => Nat.beq m 0
 dY := fun _ => .ret 0
 ml := fun m => Nat.beq m 0
 mf := fun _ => []
 hx := fun _ => ⟨[(0, .cg fW (.v 7234)), (1, iS (.v 7235)), (2, uU), (6, iS (.v 7236)), (7, iS (tw Ew)), (8, .top)], [], 9, []⟩
 ur := fun _ _ => .ret 0
 oN := fun _ => .exit 4
 bz := [(.bl true, 0)]
 fixed := []
 lt := .o2 .lt (.v 2115) Ew
 X := (⟨[(cG, Dz.bh)], []⟩ : jw).x
 fuel := 400; np := 80
 params := [7234, 7235, 7236]
def bsE (r : E) : E := .uf 123 (pk [r])
def N3 : aj where
 f := fc; key := 7; N := 63; r := 2116; base := 121000
 js := [7, 8, 9] ++ me 28 63
 hd := fun _ => ⟨[(0, .cg fW (.v 7240)), (1, iS (.v 7241)), (2, uU), (6, iS (bsE (.v 2116)))], [], 9,
  cX (.il 0) (.v 2116) :: cX (.v 2116) (.v 7241) :: B3 7240 7241⟩
 aV := fun _ => B3 7240 7241
 app := fun _ => true
 nT := fun m => Nat.beq m 0
 dY := fun _ => .ret 0
 ml := fun m => Nat.beq m 0
 mf := fun _ => []
 hx := fun _ => ⟨[(0, .top), (1, .top), (2, .top), (6, .top)], [], 9, []⟩
 ur := fun _ _ => .ret 0
 oN := fun _ => .exit 2
 bz := [(.bl true, 0)]
 fixed := []
 lt := .o2 .lt (.v 2116) (.v 7241)
 X := (⟨[(cG, Dz.bh)], [(fc, 9, LA.dB)]⟩ : jw).x
 fuel := 400; np := 80
 params := [7240, 7241]
def pK : cK where
 f := vg
 args := [.cg fW (.v 7245)]
 params := [7245]
 aV := uL (.v 7245)
 app := fun _ => true
 bz := [(.bl true, 0)]
 kind := fun _ => some 0
 out := fun _ => .cg fW (.v 7245)
 X := (⟨[(iW, FO.bh)], [(fc, 2, KM.dB), (fc, 7, N3.dB)]⟩ : jw).x
 fuel := 400; np := 80
def okA (l : E) : E := .uf 113 (pk [l])
def jc : aj := JB kM 3 21 2117 (me 5 19) [(0, .cg aK (.v 7250))] 3 4 sg fW (.uf 102 (pk [.v 7250])) (aH (.v 7250)) [(okA (.v 7250), true), nk (.v 7250)] [7250] (⟨[(iq, iV.bh)], []⟩ : jw).x 0
def mA : cK where
 f := kM
 args := [.cg aK (.v 7251)]
 params := [7251]
 aV := [(okA (.v 7251), true), nk (.v 7251)]
 app := fun _ => true
 bz := [(.bl true, 0)]
 kind := fun _ => some 0
 out := fun _ => .cg fW (.uf 102 (pk [.v 7251]))
 X := (⟨[(vg, pK.bh)], [(kM, 3, jc.dB)]⟩ : jw).x
 fuel := 400; np := 80
end Go.Proofs.YtdlppkhmmclipaaGreat.sxObj
namespace Go.Proofs.YtdlppkhmmclipaaGreat.sxObj
open Go.Sx
set_option linter.unusedVariables false
set_option maxRecDepth 100000
abbrev fB : E := .il 0
abbrev oc1 : E := .o2 .slt (.uf 100 (eP (.v 7270) (eP (.v 7271) fB))) (.uf 100 (eP (.v 7260) (eP (.v 7261) fB)))
def WG : List (aa × List Ob) :=
 [(fT oc1 [], []),
  (fF oc1 [], [])]
abbrev Ho : E := .v 7200
abbrev yp : E := .il 1
abbrev IB : E := .o2 .add (.o2 .add (.v 7201) yp) (.v 2110)
abbrev Xz : E := .o2 .sub IB yp
abbrev oc6 : E := .uf 100 (eP (eC 0 Ho Xz) (eP (eC 1 Ho Xz) fB))
abbrev oc7 : E := .uf 100 (eP (eC 0 Ho IB) (eP (eC 1 Ho IB) fB))
abbrev oc8 : aa := fT (.o2 .lt IB (.v 7202)) []
abbrev oc9 : aa := fT (.o2 .lt (.v 7201) IB) oc8
abbrev adT : List Ob := oO (.o2 .aX (.o2 .add IB yp) (.o2 .add (.o2 .add (.v 7201) yp) (.o2 .add (.v 2110) yp))) []
abbrev abO : List Ob := oO (.o2 .lt (.v 2110) (.o2 .sub (.v 7202) (.v 7201))) (oO (.o1 .not (.o2 .slt oc7 oc6)) (oO (.o1 .not (eC 6 Ho Xz)) (oO (.o1 .not (eC 6 Ho IB)) (oO (.uf 110 (eP (eC 0 Ho Xz) (eP (eC 1 Ho Xz) (eP (eC 4 Ho Xz) fB)))) (oO (.uf 110 (eP (eC 0 Ho IB) (eP (eC 1 Ho IB) (eP (eC 4 Ho IB) fB)))) (oO (.o2 .lt Xz (.o1 .ab Ho)) (oO (.o2 .lt IB (.o1 .ab Ho)) adT)))))))
def Uv : List (aa × List Ob) :=
 [(fT (.o2 .slt oc6 oc7) oc9, abO),
  (fF (.o2 .slt oc6 oc7) oc9, abO),
  (fF (.o2 .lt (.v 7201) IB) oc8, oO (.o2 .lt (.v 2110) (.o2 .sub (.v 7202) (.v 7201))) adT),
  (fF (.o2 .lt IB (.v 7202)) [], [])]
def Ty : List (aa × List Ob) :=
 [([], [])]
abbrev uV : E := .v 7210
abbrev aeI : E := eC 0 uV (.v 7211)
abbrev aej : E := eC 1 uV (.v 7211)
abbrev Y8 : E := .uf 100 (eP aeI (eP aej fB))
abbrev YZ : E := .uf 121 (eP (.v 7212) (eP (.v 7213) (eP (.v 2111) fB)))
abbrev VJ : E := .o2 .add (.v 7212) YZ
abbrev xV : E := .o2 .quo VJ (.il 2)
abbrev YA : E := .uf 100 (eP (eC 0 uV xV) (eP (eC 1 uV xV) fB))
abbrev aa7 : aa := fT (.o2 .lt (.v 7212) YZ) []
abbrev iH : E := .il 9223372036854775807
abbrev jv : E := .il (-9223372036854775808)
abbrev YN : E := .il 18446744073709551615
abbrev adx : List Ob := oO (.o2 .lt (.v 2111) (.o2 .sub (.v 7213) (.v 7212))) (oO (.o1 .not (.o2 .slt YA Y8)) (oO (.o1 .not (eC 6 uV (.v 7211))) (oO (.o1 .not (eC 6 uV xV)) (oO (.uf 110 (eP aeI (eP aej (eP (eC 4 uV (.v 7211)) fB)))) (oO (.uf 110 (eP (eC 0 uV xV) (eP (eC 1 uV xV) (eP (eC 4 uV xV) fB)))) (oO (.o2 .lt (.v 7211) (.o1 .ab uV)) (oO (.o2 .lt xV (.o1 .ab uV)) (oO (.o2 .le fB xV) (oO (.o2 .le xV iH) (oO (.o2 .le jv xV) (oO (.o2 .le VJ YN) (oO (.o2 .le VJ iH) (oO (.o2 .aX xV (.uf 121 (eP (.v 7212) (eP (.v 7213) (eP (.o2 .add (.v 2111) yp) fB))))) [])))))))))))))
def Yw : List (aa × List Ob) :=
 [(fT (.o2 .slt Y8 YA) aa7, adx),
  (fF (.o2 .slt Y8 YA) aa7, adx),
  (fF (.o2 .lt (.v 7212) YZ) [], [])]
abbrev sQ : E := .v 7215
abbrev tF : E := .v 7217
abbrev OF : E := .uf 122 (eP (.v 7216) (eP tF (eP (.v 2112) fB)))
abbrev Qx : E := .o2 .add OF tF
abbrev vO : E := .o2 .quo Qx (.il 2)
abbrev UF : E := .uf 100 (eP (eC 0 sQ vO) (eP (eC 1 sQ vO) fB))
abbrev VU : E := .uf 100 (eP (eC 0 sQ tF) (eP (eC 1 sQ tF) fB))
abbrev acI : aa := fT (.o2 .lt OF tF) []
abbrev WI : E := .o2 .add vO yp
abbrev acM : List Ob := oO (.o2 .lt (.v 2112) (.o2 .sub tF (.v 7216))) (oO (.o2 .le WI iH) (oO (.o2 .le jv WI) (oO (.o1 .not (.o2 .slt VU UF)) (oO (.o1 .not (eC 6 sQ vO)) (oO (.o1 .not (eC 6 sQ tF)) (oO (.uf 110 (eP (eC 0 sQ vO) (eP (eC 1 sQ vO) (eP (eC 4 sQ vO) fB)))) (oO (.uf 110 (eP (eC 0 sQ tF) (eP (eC 1 sQ tF) (eP (eC 4 sQ tF) fB)))) (oO (.o2 .lt vO (.o1 .ab sQ)) (oO (.o2 .le fB vO) (oO (.o2 .le vO iH) (oO (.o2 .le jv vO) (oO (.o2 .le fB Qx) (oO (.o2 .le fB Qx) (oO (.o2 .le jv Qx) (oO (.o2 .aX WI (.uf 122 (eP (.v 7216) (eP tF (eP (.o2 .add (.v 2112) yp) fB))))) [])))))))))))))))
def YB : List (aa × List Ob) :=
 [(fT (.o2 .slt UF VU) acI, acM),
  (fF (.o2 .slt UF VU) acI, acM),
  (fF (.o2 .lt OF tF) [], oO (.o2 .aX OF tF) [])]
abbrev so : E := .v 7220
abbrev E0 : E := .v 7222
abbrev Q7 : E := .uf 122 (eP (.v 7221) (eP E0 (eP (.v 2113) fB)))
abbrev Iy : E := .o2 .add Q7 E0
abbrev uS : E := .o2 .quo Iy (.il 2)
abbrev V9 : E := .uf 100 (eP (eC 0 so uS) (eP (eC 1 so uS) fB))
abbrev yy : E := .o2 .sub (.v 7223) uS
abbrev UT : E := .uf 100 (eP (eC 0 so yy) (eP (eC 1 so yy) fB))
abbrev ZM : aa := fT (.o2 .lt Q7 E0) []
abbrev VD : E := .o2 .add uS yp
abbrev aei : List Ob := oO (.o2 .lt (.v 2113) (.o2 .sub E0 (.v 7221))) (oO (.o2 .le VD iH) (oO (.o2 .le jv VD) (oO (.o1 .not (.o2 .slt UT V9)) (oO (.o1 .not (eC 6 so uS)) (oO (.o1 .not (eC 6 so yy)) (oO (.uf 110 (eP (eC 0 so uS) (eP (eC 1 so uS) (eP (eC 4 so uS) fB)))) (oO (.uf 110 (eP (eC 0 so yy) (eP (eC 1 so yy) (eP (eC 4 so yy) fB)))) (oO (.o2 .lt uS (.o1 .ab so)) (oO (.o2 .le fB uS) (oO (.o2 .lt yy (.o1 .ab so)) (oO (.o2 .le fB yy) (oO (.o2 .le yy iH) (oO (.o2 .le jv yy) (oO (.o2 .le uS iH) (oO (.o2 .le jv uS) (oO (.o2 .le fB Iy) (oO (.o2 .le Iy YN) (oO (.o2 .le fB Iy) (oO (.o2 .le Iy iH) (oO (.o2 .le jv Iy) (oO (.o2 .aX VD (.uf 122 (eP (.v 7221) (eP E0 (eP (.o2 .add (.v 2113) yp) fB))))) [])))))))))))))))))))))
def Xp : List (aa × List Ob) :=
 [(fT (.o2 .slt V9 UT) ZM, aei),
  (fF (.o2 .slt V9 UT) ZM, aei),
  (fF (.o2 .lt Q7 E0) [], oO (.o2 .aX Q7 E0) [])]
abbrev nI : E := .v 7226
abbrev lQ : E := .v 7227
abbrev aaQ : E := .o2 .lt nI (.o2 .sub lQ yp)
abbrev PM : E := .o2 .aX (.o2 .sub lQ nI) yp
abbrev oX : E := .v 7228
abbrev F7 : E := eP fB fB
abbrev adO : E := .o2 .aX (.o2 .sub oX lQ) yp
abbrev DB : E := .o1 .ab (.v 7225)
abbrev aac : List Ob := oO (.o2 .le jv (.o2 .sub lQ nI)) []
abbrev Yq : E := .o2 .add nI oX
abbrev fD : E := .o2 .quo Yq (.il 2)
abbrev Cr : E := .o2 .add fD lQ
abbrev uW : E := .o2 .sub Cr fD
abbrev aeB : aa := fF adO (fF PM [])
abbrev ad6 : aa := fT (.o2 .lt fD lQ) aeB
abbrev aez : aa := fF (.o2 .lt lQ uW) ad6
abbrev abk : aa := fT (.o2 .lt nI fD) aez
abbrev abH : aa := fT (.o2 .lt fD uW) abk
abbrev tq : E := .o2 .sub Cr oX
abbrev qF : E := .o2 .sub Cr yp
abbrev V7 : List Ob := oO (.o2 .le Yq YN) (oO (.o2 .le Yq iH) aac)
abbrev aaS : List Ob := oO (.o2 .le Cr iH) V7
abbrev Xa : List Ob := oO (.o2 .aX tq (.uf 122 (eP tq (eP fD F7)))) (oO (.o2 .le (.o2 .mul (.il 2) fD) (.o2 .add qF yp)) (oO (.o2 .lt (.o2 .sub qF tq) DB) (oO (.o2 .le tq fD) (oO (.o2 .le fB tq) (oO (.o2 .le qF iH) (oO (.o2 .le tq iH) aaS))))))
abbrev ad8 : aa := fF (.o2 .lt nI fD) aez
abbrev aet : aa := fT (.o2 .lt fD uW) ad8
abbrev acu : List Ob := oO (.o2 .aX tq (.uf 122 (eP tq (eP fD F7)))) (oO (.o2 .le (.o2 .mul (.il 2) fD) (.o2 .add qF yp)) (oO (.o2 .lt (.o2 .sub qF tq) DB) (oO (.o2 .le tq fD) (oO (.o2 .le fB tq) (oO (.o2 .le qF iH) (oO (.o2 .le jv qF) (oO (.o2 .le tq iH) (oO (.o2 .le jv tq) (oO (.o2 .le Cr iH) (oO (.o2 .le jv Cr) (oO (.o2 .le jv fD) V7)))))))))))
abbrev abf : List Ob := oO (.o2 .le jv uW) acu
abbrev rB : E := .o2 .sub Cr lQ
abbrev aeD : aa := fF (.o2 .lt fD lQ) aeB
abbrev ade : aa := fT (.o2 .lt lQ fD) aeD
abbrev ab3 : aa := fT (.o2 .lt fD rB) ade
abbrev PU : List Ob := oO (.o2 .aX nI (.uf 122 (eP nI (eP lQ F7)))) (oO (.o2 .le (.o2 .mul (.il 2) lQ) (.o2 .add qF yp)) (oO (.o2 .lt (.o2 .sub qF nI) DB) (oO (.o2 .le nI lQ) (oO (.o2 .le qF iH) (oO (.o2 .le jv qF) aaS)))))
abbrev adR : List Ob := oO (.o2 .aX nI (.uf 122 (eP nI (eP lQ F7)))) (oO (.o2 .le (.o2 .mul (.il 2) lQ) (.o2 .add qF yp)) (oO (.o2 .lt (.o2 .sub qF nI) DB) (oO (.o2 .le nI lQ) (oO (.o2 .le qF iH) (oO (.o2 .le jv qF) (oO (.o2 .le Cr iH) (oO (.o2 .le fD iH) V7)))))))
abbrev aaA : aa := fF (.o2 .lt lQ fD) aeD
abbrev aaD : aa := fT (.o2 .lt fD rB) aaA
def U1 : List (aa × List Ob) :=
 [(fT aaQ (fT PM []), oO (.bl false) []),
  (fF aaQ (fT PM []), oO (.o2 .aX oX (.uf 121 (eP lQ (eP oX F7)))) []),
  (fT adO (fF PM []), oO (.o2 .aX nI (.uf 122 (eP nI (eP lQ F7)))) (oO (.o2 .lt lQ DB) aac)),
  (fT (.o2 .lt lQ uW) ad6, oO (.bl false) []),
  (fT (.o2 .lt uW oX) abH, oO (.o2 .lt (.o2 .sub oX fD) (.v 7229)) Xa),
  (fF (.o2 .lt uW oX) abH, Xa),
  (fF (.o2 .lt fD uW) abk, oO (.o2 .le jv uW) Xa),
  (fT (.o2 .lt uW oX) aet, oO (.o2 .le fB fD) (oO (.o2 .lt (.o2 .sub oX fD) (.v 7229)) abf)),
  (fF (.o2 .lt uW oX) aet, acu),
  (fF (.o2 .lt fD uW) ad8, abf),
  (fT (.o2 .lt rB oX) ab3, oO (.o2 .lt (.o2 .sub oX fD) (.v 7229)) (oO (.o2 .le fD DB) (oO (.o2 .lt (.o2 .sub fD nI) (.v 7229)) PU))),
  (fF (.o2 .lt rB oX) ab3, oO (.o2 .le fD DB) (oO (.o2 .lt (.o2 .sub fD nI) (.v 7229)) (oO (.o2 .le rB iH) adR))),
  (fF (.o2 .lt fD rB) ade, oO (.o2 .le fD DB) (oO (.o2 .lt (.o2 .sub fD nI) (.v 7229)) (oO (.o2 .le rB iH) (oO (.o2 .le jv rB) adR)))),
  (fT (.o2 .lt rB oX) aaD, oO (.o2 .lt (.o2 .sub oX fD) (.v 7229)) PU),
  (fF (.o2 .lt rB oX) aaD, oO (.o2 .le rB iH) PU),
  (fF (.o2 .lt fD rB) aaA, oO (.o2 .le rB iH) (oO (.o2 .le jv rB) PU))]
abbrev wT : E := .il 20
abbrev N8 : E := .o2 .mul wT (.v 2114)
abbrev My : E := .o2 .add N8 wT
abbrev ZP : E := .o2 .mul wT (.o2 .add (.v 2114) yp)
def Vb : List (aa × List Ob) :=
 [(fT (.o2 .le My (.v 7231)) [], oO (.o2 .lt (.v 2114) (.o2 .quo (.v 7231) wT)) (oO (.o2 .le (.o2 .add N8 (.il 40)) iH) (oO (.o2 .le My (.o1 .ab (.v 7230))) (oO (.o2 .le N8 My) (oO (.o2 .aX My ZP) (oO (.o2 .aX (.o2 .add N8 (.il 40)) (.o2 .add ZP wT)) [])))))),
  (fF (.o2 .le My (.v 7231)) [], oO (.o2 .aX N8 (.o2 .mul wT (.o2 .quo (.v 7231) wT))) [])]
abbrev Ef : E := .uf 123 (eP (.v 2116) fB)
abbrev Fm : E := .o2 .mul (.il 2) Ef
abbrev Vn : E := .o2 .mul Fm (.o2 .quo (.v 7241) Fm)
abbrev Mv : E := .o2 .add Vn Ef
abbrev aah : aa := fT (.o2 .lt Ef (.v 7241)) []
abbrev abe : List Ob := oO (.o2 .aX Fm (.o2 .add (.o2 .mul Fm fB) Fm)) (oO (.o2 .aX fB (.o2 .mul Fm fB)) (oO (.o2 .le wT Ef) (oO (.o2 .le jv Fm) (oO (.o2 .aX (.o2 .mul Ef (.il 2)) (.uf 123 (eP (.o2 .add (.v 2116) yp) fB))) []))))
def Wa : List (aa × List Ob) :=
 [(fT (.o2 .lt Mv (.v 7241)) aah, oO (.o2 .lt (.v 2116) (.v 7241)) (oO (.o2 .le jv (.o2 .mul Ef (.il 2))) (oO (.o2 .le (.v 7241) (.o1 .ab (.v 7240))) (oO (.o2 .lt Vn Mv) (oO (.o2 .le fB Vn) (oO (.o2 .le jv Mv) abe)))))),
  (fF (.o2 .lt Mv (.v 7241)) aah, oO (.o2 .lt (.v 2116) (.v 7241)) (oO (.o2 .le jv (.o2 .mul Ef (.il 2))) (oO (.o2 .le Mv iH) abe))),
  (fF (.o2 .lt Ef (.v 7241)) [], [])]
abbrev DT : E := .o2 .mul (.il 2) (.v 7236)
abbrev NG : E := .o2 .mul DT (.v 2115)
abbrev IM : E := .o2 .add NG DT
abbrev VF : E := .o2 .add IM DT
abbrev RZ : E := .o2 .add NG (.v 7236)
abbrev aeH : E := .o2 .mul DT (.o2 .add (.v 2115) yp)
def Xw : List (aa × List Ob) :=
 [(fT (.o2 .le IM (.v 7235)) [], oO (.o2 .lt (.v 2115) (.o2 .quo (.v 7235) DT)) (oO (.o2 .le VF iH) (oO (.o2 .le jv VF) (oO (.o2 .le IM (.o1 .ab (.v 7234))) (oO (.o2 .lt RZ IM) (oO (.o2 .lt NG RZ) (oO (.o2 .le fB NG) (oO (.o2 .le RZ iH) (oO (.o2 .le jv RZ) (oO (.o2 .aX IM aeH) (oO (.o2 .aX VF (.o2 .add aeH DT)) []))))))))))),
  (fF (.o2 .le IM (.v 7235)) [], oO (.o2 .aX NG (.o2 .mul DT (.o2 .quo (.v 7235) DT))) [])]
abbrev acp : E := .o2 .mul wT (.o2 .quo (.o1 .ab (.v 7245)) wT)
def Bs : List (aa × List Ob) :=
 [([], oO (.o2 .aX wT (.uf 123 F7)) (oO (.o2 .le acp (.o1 .ab (.v 7245))) (oO (.o2 .le fB acp) [])))]
abbrev uM : E := .v 2117
abbrev Pc : E := .o2 .lt uM (.o1 .ab (.v 7250))
abbrev mu : E := eC 0 (.v 7250) uM
abbrev Hq : E := eC 0 mu fB
abbrev HB : E := eC 1 mu fB
abbrev He : E := eC 4 mu fB
abbrev gK : E := .uf 102 (eP (.v 7250) fB)
def tu : List (aa × List Ob) :=
 [(fT Pc [], oO (.uf 110 (eP Hq (eP HB (eP He fB)))) (oO (.o2 .seq Hq (eC 0 gK fB)) (oO (.o2 .seq HB (eC 1 gK fB)) (oO (.o2 .seq (eC 2 mu fB) (eC 2 gK fB)) (oO (.o2 .seq (eC 3 mu fB) (eC 3 gK fB)) (oT He (eC 4 gK fB) (oO (.o2 .seq (eC 5 mu fB) (eC 5 gK fB)) (oO (.o2 .beq (eC 6 mu fB) (eC 6 gK fB)) (oO (.o2 .beq (eC 7 mu fB) (eC 7 gK fB)) []))))))))),
  (fF Pc [], oT fB gK [])]
def tD : List (aa × List Ob) :=
 [(fT Pc [], oO (.uf 110 (eP Hq (eP HB (eP He fB)))) (oO (.o2 .seq Hq (eC 0 gK uM)) (oO (.o2 .seq HB (eC 1 gK uM)) (oO (.o2 .seq (eC 2 mu fB) (eC 2 gK uM)) (oO (.o2 .seq (eC 3 mu fB) (eC 3 gK uM)) (oT He (eC 4 gK uM) (oO (.o2 .seq (eC 5 mu fB) (eC 5 gK uM)) (oO (.o2 .beq (eC 6 mu fB) (eC 6 gK uM)) (oO (.o2 .beq (eC 7 mu fB) (eC 7 gK uM)) []))))))))),
  (fF Pc [], oO (.o2 .le uM (.o1 .ab gK)) (oT (.o2 .de gK uM) gK []))]
abbrev NY : E := .uf 102 (eP (.v 7251) fB)
def tk : List (aa × List Ob) :=
 [([], oO (.o2 .le (.o1 .ab NY) (.il 1000000)) (oO (.uf 111 (eP NY fB)) (oO (.uf 112 (eP NY fB)) [])))]
end Go.Proofs.YtdlppkhmmclipaaGreat.sxObj
namespace Go.Proofs.YtdlppkhmmclipaaGreat.sxObj
open Go.Sx Go.RowKit Go.Proofs.YtdlppkhmmclipaaGreat
set_option linter.unusedVariables false
set_option linter.unusedSimpArgs false
set_option maxRecDepth 100000
theorem lB {env : Env} {a b : E} : (E.o2 .quo a b).den env = .i ((a.den env).I.tdiv (b.den env).I) := id rfl
theorem Lk {a : Int} (h : 0 <= a) {b : Int} : a.tdiv b = a / b := Int.tdiv_eq_ediv_of_nonneg h
theorem afZ {lo hi : Int} : dn lo hi 0 = hi := id rfl
theorem agk {lo hi : Int} : up lo hi 0 = lo := id rfl
theorem agF {lo hi : Int} {n : Nat} (h : lo < dn lo hi n) : dn lo hi (n + 1) = (lo + dn lo hi n).tdiv 2 := by
 show (if lo < dn lo hi n then (lo + dn lo hi n).tdiv 2 else dn lo hi n) = _
 rw [if_pos h]
theorem P3 {lo hi : Int} {n : Nat} (h : up lo hi n < hi) : up lo hi (n + 1) = (up lo hi n + hi).tdiv 2 + 1 := by
 show (if up lo hi n < hi then (up lo hi n + hi).tdiv 2 + 1 else up lo hi n) = _
 rw [if_pos h]
theorem hZ {l : Dv} {n : Nat} (h : n < l.T.length) : row l n = l.T[n] := by
 have := No h; rw [List.getElem?_eq_getElem h] at this; exact (Option.some.inj this).symm
theorem jd {l : Dv} (h : oD l.T) {a : Int} (ha : 0 <= a) (hb : a < (l.T.length : Nat)) : (cc (row l a.toNat) 6).B = false := h.2 _ (fS (by omega))
theorem pG {l : Dv} (h : ew l.T) {a : Int} (ha : 0 <= a) (hb : a < (l.T.length : Nat)) : Qf (cc (row l a.toNat) 0) (cc (row l a.toNat) 1) (cc (row l a.toNat) 4) := h _ (fS (by omega))
theorem Hr {r : Row} (h : (cc r 6).B = false) : kl r = (iP (cc r 0).S (cc r 1).S).toList := by unfold kl; rw [rW h]
theorem pB {l : Dv} (h : oD l.T) {a b : Int} (ha : 0 <= a) (hab : a <= b) (hb : b < (l.T.length : Nat)) : cA (iP (cc (row l b.toNat) 0).S (cc (row l b.toNat) 1).S) (iP (cc (row l a.toNat) 0).S (cc (row l a.toNat) 1).S) = false := by
 have h1 := Hr (jd h ha (by omega))
 have h2 := Hr (jd h (by omega : 0 <= b) hb)
 rw [qu, <- h1, <- h2, decide_eq_false_iff_not]
 by_cases he : a = b
 ·rw [he]; exact List.lt_irrefl _
 ·have hp := List.pairwise_iff_getElem.1 h.1 a.toNat b.toNat (by omega) (by omega) (by omega)
  rw [<- hZ, <- hZ] at hp; exact List.lt_asymm hp
structure Srt (l : Dv) : Prop where
 r : oD l.T
 k : ew l.T
 n : (l.T.length : Int) <= 1000000
section
variable {o : Env}
theorem fJ (hu : OU o) {l : E} {fs : aa} (h : (uL l ++ fs).aB o) : Srt (l.den o) /\ fs.aB o := by
 simp only [uL, OA, nk, aH, pk, List.foldr, List.cons_append, List.nil_append, SS, implies_true, hu.Ab, hu.aaz] at h; exact ⟨⟨aw.1 h.1, aw.1 h.2.1, h.2.2.1⟩, h.2.2.2⟩
theorem Se : br o WG := by
 simp only [WG, al, av, and_true]
 and_intros
 all_goals intro h
 all_goals simp only [SS, implies_true]
theorem O8 (hu : OU o) {r : Nat} (hr : o.v 2110 = .i r) (hent : (LJ.aV 0).aB o) (hle : (r : Int) <= ((E.o2 .sub (.v 7202) (.v 7201)).den o).I) : br o Uv := by
 obtain ⟨hs, hent⟩ := fJ hu hent; simp only [cX, aH, SS, implies_true] at hent hle; have := hs.n; simp only [E.den] at hs this; simp only [Uv, al, av, and_true]
 and_intros
 all_goals intro h
 all_goals simp only [SS, implies_true, hr, hu.qE, hu.mr] at h hle ⊢
 all_goals and_intros
 all_goals first | omega | exact pB hs.r (by omega) (by omega) (by omega) | exact jd hs.r (by omega) (by omega) | exact aw.2 (pG hs.k (by omega) (by omega))
theorem QN (hu : OU o) {r : Nat} (hr : o.v 2111 = .i r) (hent : (QK.aV 0).aB o) (hle : (r : Int) <= ((E.o2 .sub (.v 7213) (.v 7212)).den o).I) : br o Yw := by
 obtain ⟨hs, hent⟩ := fJ hu hent; simp only [cX, sX, aH, SS, implies_true] at hent hle; have := hs.n; simp only [E.den] at hs this; simp only [Yw, al, av, and_true]
 and_intros
 all_goals intro h
 all_goals simp only [SS, implies_true, lB, hr, hu.qE, hu.mr, hu.aax] at h hle ⊢
 obtain ⟨d1, d2, d3⟩ := N6 (lo := (o.v 7212).I) (hi := (o.v 7213).I) (by omega) (by omega) r
 all_goals obtain ⟨d1, d2, d3⟩ := N6 (lo := (o.v 7212).I) (hi := (o.v 7213).I) (by omega) (by omega) r
 all_goals have d3 := d3 (by omega)
 all_goals obtain ⟨d4, d5⟩ := half (a := (o.v 7212).I) (by omega) (by omega : _ < dn (o.v 7212).I (o.v 7213).I r)
 all_goals and_intros
 all_goals first | omega | exact pB hs.r (by omega) (by omega) (by omega) | exact jd hs.r (by omega) (by omega) | exact aw.2 (pG hs.k (by omega) (by omega)) | exact (agF (by omega)).symm
theorem Pv (hu : OU o) {r : Nat} (hr : o.v 2112 = .i r) (hent : (Ri.aV 0).aB o) (hle : (r : Int) <= ((E.o2 .sub (.v 7217) (.v 7216)).den o).I) : br o YB := by
 obtain ⟨hs, hent⟩ := fJ hu hent; simp only [cX, sX, aH, SS, implies_true] at hent hle; have := hs.n; simp only [E.den] at hs this; simp only [YB, al, av, and_true]
 and_intros
 all_goals intro h
 all_goals simp only [SS, implies_true, lB, hr, hu.qE, hu.mr, hu.Wt] at h hle ⊢
 all_goals obtain ⟨d1, d2, d3⟩ := KI (lo := (o.v 7216).I) (hi := (o.v 7217).I) (by omega) (by omega) r
 ·have d3 := d3 (by omega)
  obtain ⟨d4, d5⟩ := half (b := (o.v 7217).I) (by omega) (by omega : up (o.v 7216).I (o.v 7217).I r < _)
  and_intros
  all_goals first | omega | exact pB hs.r (by omega) (by omega) (by omega) | exact jd hs.r (by omega) (by omega) | exact aw.2 (pG hs.k (by omega) (by omega)) | exact (P3 (by omega)).symm
 ·have d3 := d3 (by omega)
  obtain ⟨d4, d5⟩ := half (b := (o.v 7217).I) (by omega) (by omega : up (o.v 7216).I (o.v 7217).I r < _)
  and_intros
  all_goals first | omega | exact pB hs.r (by omega) (by omega) (by omega) | exact jd hs.r (by omega) (by omega) | exact aw.2 (pG hs.k (by omega) (by omega)) | exact (P3 (by omega)).symm
 ·omega
theorem QD (hu : OU o) {r : Nat} (hr : o.v 2113 = .i r) (hent : (P5.aV 0).aB o) (hle : (r : Int) <= ((E.o2 .sub (.v 7222) (.v 7221)).den o).I) : br o Xp := by
 obtain ⟨hs, hent⟩ := fJ hu hent; simp only [cX, sX, aH, SS, implies_true] at hent hle; have := hs.n; simp only [E.den] at hs this; simp only [Xp, al, av, and_true]
 and_intros
 all_goals intro h
 all_goals simp only [SS, implies_true, lB, hr, hu.qE, hu.mr, hu.Wt] at h hle ⊢
 all_goals obtain ⟨d1, d2, d3⟩ := KI (lo := (o.v 7221).I) (hi := (o.v 7222).I) (by omega) (by omega) r
 ·have d3 := d3 (by omega)
  obtain ⟨d4, d5⟩ := half (b := (o.v 7222).I) (by omega) (by omega : up (o.v 7221).I (o.v 7222).I r < _)
  and_intros
  all_goals first | omega | exact pB hs.r (by omega) (by omega) (by omega) | exact jd hs.r (by omega) (by omega) | exact aw.2 (pG hs.k (by omega) (by omega)) | exact (P3 (by omega)).symm
 ·have d3 := d3 (by omega)
  obtain ⟨d4, d5⟩ := half (b := (o.v 7222).I) (by omega) (by omega : up (o.v 7221).I (o.v 7222).I r < _)
  and_intros
  all_goals first | omega | exact pB hs.r (by omega) (by omega) (by omega) | exact jd hs.r (by omega) (by omega) | exact aw.2 (pG hs.k (by omega) (by omega)) | exact (P3 (by omega)).symm
 ·omega
theorem Rq (hu : OU o) (hent : acZ.aV.aB o) : br o U1 := by
 have hg := (bO.1 hent).1; obtain ⟨hs, hent⟩ := fJ hu (bO.1 hent).2; simp only [De, cX, sX, aH, SS, implies_true] at hent hg; have := hs.n; simp only [E.den] at hs this; have hq : ((o.v 7226).I + (o.v 7228).I).tdiv 2 = ((o.v 7226).I + (o.v 7228).I) / 2 := Lk (by omega)
 simp only [U1, al, av, and_true]
 and_intros
 all_goals intro h
 all_goals simp only [SS, implies_true, lB, hq, hu.aax, hu.Wt, afZ, agk] at h ⊢
 all_goals and_intros
 all_goals omega
theorem Qi (hu : OU o) {r : Nat} (hr : o.v 2114 = .i r) (hent : (KM.aV 0).aB o) (hle : (r : Int) <= ((E.o2 .quo (.v 7231) (.il 20)).den o).I) : br o Vb := by
 obtain ⟨hs, hent⟩ := fJ hu hent; simp only [cX, sX, aH, lB, SS, implies_true] at hent hle; have := hs.n; simp only [E.den] at hs this; have hq : (o.v 7231).I.tdiv 20 = (o.v 7231).I / 20 := Lk (by omega)
 simp only [Vb, al, av, and_true]
 and_intros
 all_goals intro h
 all_goals simp only [SS, implies_true, lB, hq, hr] at h hle ⊢
 all_goals and_intros
 all_goals omega
theorem QY (hu : OU o) {r : Nat} (hr : o.v 2115 = .i r) (hent : (LA.aV 0).aB o) (hle : (r : Int) <= (Ew.den o).I) : br o Xw := by
 have hent : (uL (.v 7234) ++ [(.o2 .aX (.v 7235) (aH (.v 7234)), true), cX (.il 20) (.v 7236), sX (.v 7236) (.v 7235)]).aB o := hent; obtain ⟨hs, hent⟩ := fJ hu hent; simp only [cX, sX, aH, Ew, lB, SS, implies_true] at hent hle; have := hs.n; simp only [E.den] at hs this; have hq : (o.v 7235).I.tdiv (2 * (o.v 7236).I) = (o.v 7235).I / (2 * (o.v 7236).I) := Lk (by omega)
 rw [hq] at hle; have hd : 0 < 2 * (o.v 7236).I := by omega
 have h1 : ∀ a : Int, a <= (o.v 7235).I / (2 * (o.v 7236).I) ↔ a * (2 * (o.v 7236).I) <= (o.v 7235).I := fun a => Int.le_ediv_iff_mul_le hd; have h2 := (h1 r).1 hle; have h3 := h1 (r + 1); have h0 : 0 <= (r : Int) * (2 * (o.v 7236).I) := Int.mul_nonneg (by omega) (by omega)
 have hm : 2 * (o.v 7236).I * (r : Int) = r * (2 * (o.v 7236).I) := Int.mul_comm ..; have hm2 : 2 * (o.v 7236).I * ((r : Int) + 1) = r * (2 * (o.v 7236).I) + 2 * (o.v 7236).I := by rw [Int.mul_comm, Int.add_mul, Int.one_mul]
 rw [Int.add_mul, Int.one_mul] at h3; simp only [Xw, al, av, and_true]
 and_intros
 all_goals intro h
 all_goals simp only [SS, implies_true, lB, hq, hr, hm, hm2] at h hle ⊢
 all_goals generalize hx : (r : Int) * (2 * (o.v 7236).I) = x at *
 ·generalize (o.v 7235).I / (2 * (o.v 7236).I) = y at *
  and_intros
  all_goals omega
 ·have : (o.v 7235).I / (2 * (o.v 7236).I) = r := by
    generalize (o.v 7235).I / (2 * (o.v 7236).I) = y at *; omega
  rw [this, hm]
theorem Qe (hu : OU o) {r : Nat} (hr : o.v 2116 = .i r) (hent : (N3.aV 0).aB o) (hle : (r : Int) <= ((E.v 7241).den o).I) : br o Wa := by
 obtain ⟨hs, hent⟩ := fJ hu hent; simp only [cX, sX, aH, lB, SS, implies_true] at hent hle; have := hs.n; simp only [E.den] at hs this
 have hb : (r : Int) < 2 ^ r := by
  have := Nat.lt_two_pow_self (n := r)
  exact_mod_cast this
 have hb2 : (2 : Int) ^ (r + 1) = 2 ^ r * 2 := Int.pow_succ ..; simp only [Wa, al, av, and_true]
 and_intros
 all_goals intro h
 all_goals simp only [SS, implies_true, lB, hr, hu.abB, hb2] at h hle ⊢
 all_goals generalize (2 : Int) ^ r = b at *
 all_goals have hd : 0 < 2 * (20 * b) := by omega
 all_goals have hq : (o.v 7241).I.tdiv (2 * (20 * b)) = (o.v 7241).I / (2 * (20 * b)) := Lk (by omega)
 all_goals simp only [hq, Int.mul_zero] at h ⊢
 all_goals have hx := Int.mul_ediv_self_le (x := (o.v 7241).I) (by omega : 2 * (20 * b) ≠ 0)
 all_goals have hy : 0 <= 2 * (20 * b) * ((o.v 7241).I / (2 * (20 * b))) := Int.mul_nonneg (by omega) (Int.ediv_nonneg (by omega) (by omega))
 all_goals generalize 2 * (20 * b) * ((o.v 7241).I / (2 * (20 * b))) = x at *
 all_goals and_intros
 all_goals first | omega | trivial
theorem EO (hu : OU o) (hent : pK.aV.aB o) : br o Bs := by
 have hent : (uL (.v 7245) ++ []).aB o := hent; obtain ⟨hs, _⟩ := fJ hu hent; have := hs.n; simp only [E.den] at hs this; have hq : ((o.v 7245).T.length : Int).tdiv 20 = ((o.v 7245).T.length : Int) / 20 := Lk (by omega)
 simp only [Bs, al, av, and_true]; intro h; simp only [SS, implies_true, lB, hq, hu.abB] at h ⊢
 and_intros
 ·rfl
 all_goals omega
theorem zY (hu : OU o) (hr : o.v 2117 = .i (0 : Nat)) (hent : (jc.aV 0).aB o) : br o tu := by
 simp only [jc, JB, okA, nk, aH, pk, List.foldr, SS, implies_true, hu.JD] at hent; have hok := aw.1 hent.1; simp only [tu, al, av, and_true]
 and_intros
 all_goals intro h
 all_goals simp only [SS, implies_true, hr, hu.mr, hu.JA] at h ⊢
 ·have hl : 0 < (o.v 7250).T.length := by omega
  have hk := gw (l := .t ((o.v 7250).T.map m0)) hok.2 (n := 0) (by rw [OQ, List.length_map]; exact hl)
  rw [nB hl] at hk ⊢; exact ⟨aw.2 hk, rfl, rfl, rfl, rfl, rfl, rfl, rfl, rfl⟩
 ·have := wg (l := (o.v 7250).T) (by simpa using h)
  rw [this]; rfl
theorem AK (hu : OU o) {r : Nat} (hr : o.v 2117 = .i r) (hent : (jc.aV 0).aB o) (hle : (r : Int) <= ((aH (.v 7250)).den o).I) : br o tD := by
 simp only [jc, JB, okA, nk, aH, pk, List.foldr, SS, implies_true, hu.JD] at hent hle; have hok := aw.1 hent.1; simp only [tD, al, av, and_true]
 and_intros
 all_goals intro h
 all_goals simp only [SS, implies_true, hr, hu.mr, hu.JA] at h ⊢
 ·have hl : r < (o.v 7250).T.length := by omega
  have hk := gw (l := .t ((o.v 7250).T.map m0)) hok.2 (n := r) (by rw [OQ, List.length_map]; exact hl)
  rw [nB hl] at hk ⊢; exact ⟨aw.2 hk, rfl, rfl, rfl, rfl, rfl, rfl, rfl, rfl⟩
 ·exact ⟨by rw [List.length_map]; omega, map_take h⟩
theorem BM (hu : OU o) (hent : mA.aV.aB o) : br o tk := by
 simp only [mA, okA, nk, aH, pk, List.foldr, SS, implies_true, hu.JD] at hent; have hok := aw.1 hent.1; simp only [tk, al, av, and_true]; intro h; simp only [SS, implies_true, hu.JA, hu.Ab, hu.aaz, List.length_map] at h ⊢; exact ⟨hent.2, aw.2 hok.2, aw.2 hok.1⟩
end
def jl : aJ := .cons .str .nil
def Zz : aJ := .cons (.int .i64) .nil
def stK : aJ := .cons (.int .i64) (.cons .bool (.cons (.sl fW) (.cons (.sl jl) (.cons .str (.cons (.sl Zz) .nil)))))
def AN (l : E) : E × Bool := (.o2 .le (aH l) (.il 2147483647), true)
def Vm (l a b : E) : E := .uf 130 (pk [l, a, b])
def acK (l a b : E) : E := .uf 131 (pk [l, a, b])
def GK (l a b : Nat) : aa := [AN (.v l), (acK (.v l) (.v a) (.v b), true)]
def ixO : aA := .cells BR [.str (.v 7301), .str (.v 7302)]
def Zi : aj where
 f := BF; key := 2; N := 19; r := 2120; base := 130000
 js := [5] ++ me 9 19
 hd := fun _ => ⟨[(0, .cg gI (.v 7300)), (3, .ptr 1 (.c 0)), (4, .top), (7, iS (aH (.v 7300))), (8, iS (.v 2120))], [(1, ixO)], 9,
  cX (.il 0) (.v 2120) :: cX (.v 2120) (Vm (.v 7300) (.v 7301) (.v 7302)) :: GK 7300 7301 7302⟩
 aV := fun _ => GK 7300 7301 7302
 app := fun _ => true
 nT := fun m => Nat.beq m 0
 dY := fun _ => .ret 0
 ml := fun m => Nat.beq m 0
 mf := fun _ => []
 hx := fun n => ⟨[(0, .top), (3, .ptr 1 (.c 0)), (4, match n with | 1 => iS (Vm (.v 7300) (.v 7301) (.v 7302)) | _ => .top), (7, .top), (8, .top)], [(1, ixO)], 9, []⟩
 ur := fun ex _ => match ex with | .ret => .ret 1 | _ => .ret 0
 oN := fun n => match n with | 1 => .ret | _ => .exit 0
 bz := [(.bl false, 0), (.bl true, 1)]
 fixed := [1]
 lt := .o2 .lt (.v 2120) (Vm (.v 7300) (.v 7301) (.v 7302))
 X := dF.none
 fuel := 300; np := 80
 params := [7300, 7301, 7302]
def coF : cK where
 f := pW
 args := [.cg gI (.v 7303), .agg [.str (.v 7304), .str (.v 7305)]]
 params := [7303, 7304, 7305]
 aV := GK 7303 7304 7305
 app := fun _ => true
 bz := [(.bl true, 0)]
 kind := fun _ => some 0
 out := fun _ => .bool (.bl true)
 X := (⟨[], [(BF, 2, Zi.dB)]⟩ : jw).x
 fuel := 300; np := 80
def Ow (f key N res : Nat) (ks : aJ) (t islot : Nat) (J : List Nat) (ex p r bad st : Nat) (X : dF) (more : List (Nat × SV) := []) (args : List E := []) (ps : List Nat := []) (bk : aQ := []) (aV : aa := [AN (.v p)]) : aj where
 f := f; key := key; N := N; r := r; base := 131000 + 1000 * (r - 2120)
 js := J
 hd := fun _ => ⟨more ++ [(res, .bool (.bl false)), (t, .cg ks (.v p)), (t + 1, iS (aH (.v p))), (islot, iS (.v r))], bk, 9,
  cX (.il 0) (.v r) :: cX (.v r) (.uf st (pk (.v p :: args))) :: aV⟩
 aV := fun _ => aV
 app := fun _ => true
 nT := fun m => Nat.beq m 0
 dY := fun _ => .ret 0
 ml := fun m => Nat.beq m 0
 mf := fun _ => []
 hx := fun n => ⟨more ++ [(res, .bool (.bl false)), (t, .cg ks (.v p)), (t + 1, iS (aH (.v p))), (islot, .top)], bk, 9, []⟩
 ur := fun ex _ => match ex with | .ret => .ret 1 | _ => .ret 0
 oN := fun n => match n with | 1 => .ret | _ => .exit ex
 bz := [(.uf bad (pk (.v p :: args)), 1), (.bl true, 0)]
 fixed := bk.map (·.1)
 lt := .o2 .lt (.v r) (.uf st (pk (.v p :: args)))
 X := X
 fuel := 300; np := 80
 params := p :: ps
def rD (f : Nat) (args : List SV) (ps : List Nat) (aV : aa) (code : Nat) (xs : List E) (X : dF) : cK where
 f := f
 args := args
 params := ps
 aV := aV
 app := fun _ => true
 bz := [(.bl true, 0)]
 kind := fun _ => some 0
 out := fun _ => .bool (.uf code (pk xs))
 X := X
 fuel := 300; np := 80
def goT (f key N res : Nat) (ks : aJ) (t islot : Nat) (J : List Nat) (ex p r : Nat) (X : dF) (aV : aa) (more : List (Nat × SV) := []) (ps : List Nat := []) (bk : aQ := []) : aj where
 f := f; key := key; N := N; r := r; base := 131000 + 1000 * (r - 2120)
 js := J
 hd := fun _ => ⟨more ++ [(res, .bool (.bl false)), (t, .cg ks (.v p)), (t + 1, iS (aH (.v p))), (islot, iS (.v r))], bk, 9,
  cX (.il 0) (.v r) :: cX (.v r) (aH (.v p)) :: AN (.v p) :: aV⟩
 aV := fun _ => AN (.v p) :: aV
 app := fun _ => true
 nT := fun m => Nat.beq m 0
 dY := fun _ => .ret 0
 ml := fun m => Nat.beq m 0
 mf := fun _ => []
 hx := fun n => ⟨more ++ [(res, .bool (.bl false)), (t, .cg ks (.v p)), (t + 1, iS (aH (.v p))), (islot, .top)], bk, 9, []⟩
 ur := fun ex _ => match ex with | .ret => .ret 1 | _ => .ret 0
 oN := fun n => match n with | 1 => .ret | _ => .exit ex
 bz := [(.bl false, 1), (.bl true, 0)]
 fixed := bk.map (·.1)
 lt := .o2 .lt (.v r) (aH (.v p))
 X := X
 fuel := 300; np := 80
 params := p :: ps
def slY : aj := goT eM 4 23 4 gI 12 14 ([6] ++ me 15 23) 0 7307 2121 (⟨[(pW, coF.bh)], []⟩ : jw).x [] [(1, .cg gI (.v 7307))]
def slF : cK where
 f := eM
 args := [.cg gI (.v 7308), .cg gI (.v 7308)]
 params := [7308]
 aV := [AN (.v 7308)]
 app := fun _ => true
 bz := [(.bl true, 0)]
 kind := fun _ => some 0
 out := fun _ => .bool (.bl true)
 X := (⟨[], [(eM, 4, slY.dB)]⟩ : jw).x
 fuel := 300; np := 80
def soF : cK where
 f := rL
 args := [.agg (qB (vE 7310)), .agg (qB (vE 7310))]
 params := me 7310 7318
 aV := [AN (.v 7314)]
 app := fun _ => true
 bz := [(.bl true, 0)]
 kind := fun _ => some 0
 out := fun _ => .bool (.bl true)
 X := (⟨[(eM, slF.bh)], []⟩ : jw).x
 fuel := 300; np := 80
def zM : E := .il 2147483647
def Kj : Nat := 21
def CJ : Nat := 42
def uo : Nat := 44
def jy : Nat := 72
def lX : Nat := 22
def lv : Nat := 24
def z6Y : aj := Ow CJ 4 18 2 gI 8 10 ([4] ++ me 11 18) 0 7400 2130 133 134 dF.none
def z6F : cK := rD CJ [.cg gI (.v 7401)] [7401] [] 135 [.v 7401] (⟨[], [(CJ, 4, z6Y.dB)]⟩ : jw).x
def abS (e : Nat -> E) : E := .uf 136 (pk [e 0, e 1, e 2, e 3, e 4, e 5])
def Za : cK := rD Kj [.agg (qB (vE 7410))] (me 7410 7418) [] 136 [.v 7410, .v 7411, .v 7412, .v 7413, .v 7414, .v 7415] (⟨[(CJ, z6F.bh)], []⟩ : jw).x
def OT : aj := Ow uo 4 18 2 fW 8 10 ([4] ++ me 11 18) 0 7420 2131 137 138 (⟨[(Kj, Za.bh)], []⟩ : jw).x
def N0 : cK := rD uo [.cg fW (.v 7421)] [7421] [] 139 [.v 7421] (⟨[], [(uo, 4, OT.dB)]⟩ : jw).x
def QW : aj := Ow jy 7 42 2 gI 26 28 ([6] ++ me 29 38) 2 7430 2133 143 144 dF.none [(4, .ptr 1 (.c 0))] [.v 7431] [7431, 7432] [(1, .cells BR [.str (.v 7431), .str (.v 7432)])]
def Iz : aj := Ow jy 2 42 2 gI 7 9 ([3, 4, 6] ++ me 10 39) 0 7433 2134 145 146 (⟨[], [(jy, 7, QW.dB)]⟩ : jw).x [(0, .cg gI (.v 7433))]
def Mr : cK := rD jy [.cg gI (.v 7434)] [7434] [AN (.v 7434)] 147 [.v 7434] (⟨[], [(jy, 2, Iz.dB)]⟩ : jw).x
def szE (e : E) : E := .o1 .size e
def shY : aj where
 f := lX; key := 5; N := 34; r := 2135; base := 146000
 js := [5] ++ me 19 26
 hd := fun _ => ⟨[(2, .bool (.bl false)), (4, .str (.v 7436)), (17, iS (szE (.v 7436))), (18, iS (.v 2135))], [], 9,
  cX (.il 0) (.v 2135) :: cX (.v 2135) (.uf 149 (pk [.v 7436])) :: [cX (szE (.v 7436)) zM]⟩
 aV := fun _ => [cX (szE (.v 7436)) zM]
 app := fun _ => true
 nT := fun m => Nat.beq m 0
 dY := fun _ => .ret 0
 ml := fun m => Nat.beq m 0
 mf := fun _ => []
 hx := fun n => ⟨[(2, .bool (.bl false)), (4, .str (.v 7436)), (17, .top), (18, .top)], [], 9, []⟩
 ur := fun ex _ => match ex with | .ret => .ret 1 | _ => .ret 0
 oN := fun n => match n with | 1 => .ret | _ => .exit 2
 bz := [(.uf 148 (pk [.v 7436]), 1), (.bl true, 0)]
 fixed := []
 lt := .o2 .lt (.v 2135) (.uf 149 (pk [.v 7436]))
 X := dF.none
 fuel := 300; np := 80
 params := [7436]
def Re : cK := rD lX [.agg (qB (vE 7440))] (me 7440 7448) [(abS (vE 7440), true)] 150 (pk8 (vE 7440)) (⟨[(jy, Mr.bh)], [(lX, 5, shY.dB)]⟩ : jw).x
def Jg : aj := Ow lv 2 18 2 fW 5 7 ([4] ++ me 8 15) 0 7450 2136 151 152 (⟨[(lX, Re.bh)], []⟩ : jw).x [] [] [] [] [(.uf 139 (pk [.v 7450]), true)]
def Nk : cK := rD lv [.cg fW (.v 7451)] [7451] [(.uf 139 (pk [.v 7451]), true)] 153 [.v 7451] (⟨[], [(lv, 2, Jg.dB)]⟩ : jw).x
end Go.Proofs.YtdlppkhmmclipaaGreat.sxObj
namespace Go.Proofs.YtdlppkhmmclipaaGreat.sxObj
open Go.Sx
set_option linter.unusedVariables false
set_option maxRecDepth 100000
abbrev od0 : E := .o2 .seq (.v 7302) (eC 1 (.v 7300) (.v 2120))
abbrev od1 : E := .o2 .seq (.v 7301) (eC 0 (.v 7300) (.v 2120))
abbrev od2 : E := .o2 .lt (.v 2120) (.o1 .ab (.v 7300))
abbrev od3 : aa := fT od1 (fT od2 [])
abbrev nX : E := .il 0
abbrev od5 : E := .uf 130 (eP (.v 7300) (eP (.v 7301) (eP (.v 7302) nX)))
abbrev od6 : List Ob := oO (.o2 .lt (.v 2120) od5) []
abbrev Xr : E := .bl false
def ixL : List (aa × List Ob) :=
 [(fT od0 od3, oO (.o2 .aX (.v 2120) od5) []),
  (fF od0 od3, od6),
  (fF od1 (fT od2 []), od6),
  (fF od2 [], oO Xr [])]
def coL : List (aa × List Ob) :=
 [([], oO (.o2 .beq (.o2 .le nX (.uf 130 (eP (.v 7303) (eP (.v 7304) (eP (.v 7305) nX))))) (.bl true)) [])]
abbrev od8 : E := .o2 .lt (.v 2121) (.o1 .ab (.v 7307))
def Wq : List (aa × List Ob) :=
 [(fT od8 [], oO (.uf 131 (eP (.v 7307) (eP (eC 0 (.v 7307) (.v 2121)) (eP (eC 1 (.v 7307) (.v 2121)) nX)))) []),
  (fF od8 [], [])]
def slL : List (aa × List Ob) :=
 [([], [])]
def soL : List (aa × List Ob) :=
 [([], [])]
abbrev acg : aa := fT (.o2 .aX (.v 7320) nX) []
abbrev sM : E := .il 2147483647
abbrev afV : aa := fF (.o2 .aX (.v 7320) nX) []
abbrev aav : E := .o2 .lt (.v 2123) (.o1 .ab (.v 7323))
def abw : List (aa × List Ob) :=
 [(fT aav acg, []),
  (fF aav acg, []),
  (afV, [])]
def ssL : List (aa × List Ob) :=
 [(fT (.o2 .aX (.v 7330) nX) [], []),
  (fF (.o2 .aX (.v 7330) nX) [], [])]
def saL : List (aa × List Ob) :=
 [([], [])]
abbrev aeK : E := .o2 .lt sM (.o1 .size (eC 0 (.v 7400) (.v 2130)))
abbrev V3 : E := .o2 .lt (.v 2130) (.o1 .ab (.v 7400))
abbrev Vq : E := .uf 133 (eP (.v 7400) nX)
abbrev ad5 : E := .o2 .lt sM (.o1 .size (eC 1 (.v 7400) (.v 2130)))
abbrev aa8 : aa := fF aeK (fT V3 [])
def Wg : List (aa × List Ob) :=
 [(fT aeK (fT V3 []), oO Vq []),
  (fT ad5 aa8, oO Vq []),
  (fF ad5 aa8, oO (.o2 .lt (.v 2130) (.uf 134 (eP (.v 7400) nX))) []),
  (fF V3 [], oO (.o1 .not Vq) [])]
abbrev VE : E := .o2 .lt sM (.o1 .ab (.v 7401))
abbrev acF : E := .uf 135 (eP (.v 7401) nX)
abbrev abx : List Ob := oO (.o2 .beq Xr acF) []
abbrev ZS : E := .uf 133 (eP (.v 7401) nX)
def z6L : List (aa × List Ob) :=
 [(fT VE [], abx),
  (fT ZS (fF VE []), abx),
  (fF ZS (fF VE []), oO (.o2 .beq (.bl true) acF) [])]
abbrev Y3 : E := .o2 .lt sM (.o1 .size (.v 7410))
abbrev ZE : E := .uf 136 (eP (.v 7410) (eP (.v 7411) (eP (.v 7412) (eP (.v 7413) (eP (.v 7414) (eP (.v 7415) nX))))))
abbrev J4 : List Ob := oO (.o2 .beq Xr ZE) []
abbrev abK : E := .o2 .lt sM (.o1 .size (.v 7411))
abbrev U0 : E := .o2 .lt sM (.o1 .size (.v 7412))
abbrev YH : aa := fF abK (fF Y3 [])
abbrev aer : E := .o2 .lt sM (.o1 .size (.v 7413))
abbrev acN : E := .o2 .lt sM (.o1 .size (.v 7415))
abbrev VT : E := .uf 135 (eP (.v 7414) nX)
abbrev Uj : aa := fF aer (fF U0 YH)
def z5L : List (aa × List Ob) :=
 [(fT Y3 [], J4),
  (fT abK (fF Y3 []), J4),
  (fT U0 YH, J4),
  (fT aer (fF U0 YH), J4),
  (fT acN (fT VT Uj), J4),
  (fF acN (fT VT Uj), oO (.o2 .beq (.bl true) ZE) []),
  (fF VT Uj, J4)]
abbrev AY : E := .v 7420
abbrev Du : E := .v 2131
abbrev ZO : E := .uf 136 (eP (eC 0 AY Du) (eP (eC 1 AY Du) (eP (eC 2 AY Du) (eP (eC 3 AY Du) (eP (eC 4 AY Du) (eP (eC 5 AY Du) nX))))))
abbrev XU : E := .o2 .lt Du (.o1 .ab AY)
abbrev ac9 : E := .uf 137 (eP AY nX)
def L6 : List (aa × List Ob) :=
 [(fT ZO (fT XU []), oO (.o2 .lt Du (.uf 138 (eP AY nX))) []),
  (fF ZO (fT XU []), oO ac9 []),
  (fF XU [], oO (.o1 .not ac9) [])]
abbrev VX : E := .o2 .lt sM (.o1 .ab (.v 7421))
abbrev ach : E := .uf 139 (eP (.v 7421) nX)
abbrev aaL : List Ob := oO (.o2 .beq Xr ach) []
abbrev ZG : E := .uf 137 (eP (.v 7421) nX)
def Xq : List (aa × List Ob) :=
 [(fT VX [], aaL),
  (fT ZG (fF VX []), aaL),
  (fF ZG (fF VX []), oO (.o2 .beq (.bl true) ach) [])]
abbrev adj : E := .o2 .seq (eC 0 (.v 7430) (.v 2133)) (.v 7431)
abbrev WA : E := .o2 .lt (.v 2133) (.o1 .ab (.v 7430))
abbrev Xn : E := eP (.v 7430) (eP (.v 7431) nX)
def WR : List (aa × List Ob) :=
 [(fT adj (fT WA []), oO (.uf 143 Xn) []),
  (fF adj (fT WA []), oO (.o2 .lt (.v 2133) (.uf 144 Xn)) []),
  (fF WA [], oO (.o1 .not (.uf 143 Xn)) [])]
abbrev Fg : E := .v 2134
abbrev aeN : E := eC 0 (.v 7433) Fg
abbrev aad : E := .uf 143 (eP (.o2 .de (.v 7433) Fg) (eP aeN nX))
abbrev V2 : E := .o2 .le (.o1 .size (eC 1 (.v 7433) Fg)) (.il 40)
abbrev adn : E := .o2 .le (.o1 .size aeN) (.il 40)
abbrev Yd : E := .o2 .lt Fg (.o1 .ab (.v 7433))
abbrev Wx : aa := fT adn (fT Yd [])
abbrev Qw : E := .uf 145 (eP (.v 7433) nX)
abbrev ac2 : List Ob := oO (.o2 .le (.o1 .ab (.o2 .de (.v 7433) Fg)) sM) (oO (.o2 .le Fg (.o1 .ab (.v 7433))) [])
def Lb : List (aa × List Ob) :=
 [(fT aad (fT V2 Wx), oO Qw ac2),
  (fF aad (fT V2 Wx), oO (.o2 .lt Fg (.uf 146 (eP (.v 7433) nX))) ac2),
  (fF V2 Wx, oO Qw []),
  (fF adn (fT Yd []), oO Qw []),
  (fF Yd [], oO (.o1 .not Qw) [])]
abbrev acb : E := .uf 145 (eP (.v 7434) nX)
abbrev ZT : E := .uf 147 (eP (.v 7434) nX)
def UU : List (aa × List Ob) :=
 [(fT acb [], oO (.o2 .beq Xr ZT) []),
  (fF acb [], oO (.o2 .beq (.o2 .le (.o1 .ab (.v 7434)) (.il 6)) ZT) [])]
abbrev abM : E := .o2 .aX (.o2 .byte (.v 7436) (.v 2135)) (.il 47)
abbrev YK : E := .o2 .lt (.v 2135) (.o1 .size (.v 7436))
abbrev aeS : E := .uf 148 (eP (.v 7436) nX)
def shL : List (aa × List Ob) :=
 [(fT abM (fT YK []), oO aeS []),
  (fF abM (fT YK []), oO (.o2 .lt (.v 2135) (.uf 149 (eP (.v 7436) nX))) []),
  (fF YK [], oO (.o1 .not aeS) [])]
abbrev V1 : E := .uf 148 (eP (.v 7440) nX)
abbrev adE : E := .uf 150 (eP (.v 7440) (eP (.v 7441) (eP (.v 7442) (eP (.v 7443) (eP (.v 7444) (eP (.v 7445) (eP (.v 7446) (eP (.v 7447) nX))))))))
abbrev B6 : List Ob := oO (.o2 .beq Xr adE) []
abbrev aeW : List Ob := oO (.o2 .le (.o1 .size (.v 7440)) sM) B6
abbrev adH : E := .uf 148 (eP (.v 7441) nX)
abbrev adz : List Ob := oO (.o2 .le (.o1 .size (.v 7441)) sM) aeW
abbrev UW : E := .uf 147 (eP (.v 7444) nX)
abbrev acf : E := .o2 .le (.o1 .ab (.v 7444)) (.il 4)
abbrev VR : E := .o2 .le (.o1 .size (.v 7445)) (.il 40)
abbrev ac7 : E := .o2 .le (.o1 .size (.v 7443)) (.il 20)
abbrev XX : E := .o2 .le (.o1 .size (.v 7442)) (.il 20)
abbrev abh : E := .o2 .le (.o1 .size (.v 7441)) (.il 20)
abbrev Yu : E := .o2 .le (.o1 .size (.v 7440)) (.il 20)
abbrev XA : aa := fF adH (fF V1 [])
abbrev Uq : aa := fT abh (fT Yu XA)
abbrev WX : aa := fT ac7 (fT XX Uq)
abbrev Wh : aa := fT acf (fT VR WX)
def smL : List (aa × List Ob) :=
 [(fT V1 [], aeW),
  (fT adH (fF V1 []), adz),
  (fT (.v 7447) (fT UW Wh), B6),
  (fF (.v 7447) (fT UW Wh), oO (.o2 .beq (.o1 .not (.o2 .seq (.v 7441) (.sl []))) adE) []),
  (fF UW Wh, B6),
  (fF acf (fT VR WX), B6),
  (fF VR WX, B6),
  (fF ac7 (fT XX Uq), B6),
  (fF XX Uq, B6),
  (fF abh (fT Yu XA), oO (.o2 .le (.o1 .size (.v 7441)) sM) B6),
  (fF Yu XA, adz)]
abbrev oY : E := .v 7450
abbrev oM : E := .v 2136
abbrev ZH : E := .uf 150 (eP (eC 0 oY oM) (eP (eC 1 oY oM) (eP (eC 2 oY oM) (eP (eC 3 oY oM) (eP (eC 4 oY oM) (eP (eC 5 oY oM) (eP (eC 6 oY oM) (eP (eC 7 oY oM) nX))))))))
abbrev Ve : E := .o2 .lt oM (.o1 .ab oY)
abbrev aar : List Ob := oO (.uf 136 (eP (eC 0 oY oM) (eP (eC 1 oY oM) (eP (eC 2 oY oM) (eP (eC 3 oY oM) (eP (eC 4 oY oM) (eP (eC 5 oY oM) nX))))))) []
abbrev ZK : E := .uf 151 (eP oY nX)
def Mp : List (aa × List Ob) :=
 [(fT ZH (fT Ve []), oO (.o2 .lt oM (.uf 152 (eP oY nX))) (oO (.o2 .le (.o2 .add oM (.il 1)) (.il 9223372036854775807)) aar)),
  (fF ZH (fT Ve []), oO ZK aar),
  (fF Ve [], oO (.o1 .not ZK) [])]
abbrev aeR : E := .uf 151 (eP (.v 7451) nX)
abbrev aaw : E := .uf 153 (eP (.v 7451) nX)
def VV : List (aa × List Ob) :=
 [(fT aeR [], oO (.o2 .beq Xr aaw) []),
  (fF aeR [], oO (.o2 .beq (.o2 .le (.o1 .ab (.v 7451)) (.il 20)) aaw) [])]
end Go.Proofs.YtdlppkhmmclipaaGreat.sxObj
namespace Go.Proofs.YtdlppkhmmclipaaGreat.sxObj
open Go.Sx Go.RowKit Go.Proofs.YtdlppkhmmclipaaGreat
set_option linter.unusedVariables false
set_option linter.unusedSimpArgs false
set_option maxRecDepth 100000
theorem XB {env : Env} {a b : E} : (E.o2 .byte a b).den env = .i ((((a.den env).S.data[(b.den env).I.toNat]?.getD 0).toNat : Nat) : Int) := id rfl
theorem O7 {env : Env} {a b : E} : ((E.o2 .byte a b).den env).I = ((((a.den env).S.data[(b.den env).I.toNat]?.getD 0).toNat : Nat) : Int) := id rfl
theorem LK : (ByteArray.mk [].toArray).toList = [] := by rw [toList_data]
theorem abQ {B : Nat -> Bool} {n r : Nat} (h : B r = true) : stop B n <= r := Nat.le_of_not_lt fun hl => by
 have := bP hl; rw [h] at this; cases this
theorem Rv {l : Dv} {r : Nat} : Lp l (cc (row l r) 0) (cc (row l r) 1) r = true := by unfold Lp; simp
section
variable {o : Env}
theorem WK (hu : OU o) {r : Nat} (hr : o.v 2120 = .i r) (hent : (Zi.aV 0).aB o) (hle : (r : Int) <= ((Vm (.v 7300) (.v 7301) (.v 7302)).den o).I) : br o ixL := by
 simp only [Zi, GK, AN, aH, acK, Vm, pk, List.foldr, SS, implies_true, hu.Rr, hu.aeq] at hent hle; have h1 := @Dy (Lp (o.v 7300) (o.v 7301) (o.v 7302)) (o.v 7300).T.length r (by show r <= Kn _ _ _; omega)
 have h2 := @sC (Lp (o.v 7300) (o.v 7301) (o.v 7302)) (o.v 7300).T.length r (by show r <= Kn _ _ _; omega)
 have h3 := hent.2; simp only [ixL, al, av, and_true]
 and_intros
 all_goals intro h
 all_goals simp only [SS, implies_true, hr, hu.Rr] at h ⊢
 ·have hb : Lp (o.v 7300) (o.v 7301) (o.v 7302) r = true := by
    unfold Lp; rw [<- h.1, <- h.2.1]; simp
  have h4 : Kn (o.v 7300) (o.v 7301) (o.v 7302) <= r := by
   refine Nat.le_of_not_lt fun hl => ?_; have := bP hl; rw [hb] at this; cases this
  omega
 ·have hb : Lp (o.v 7300) (o.v 7301) (o.v 7302) r = false := by
    unfold Lp; rw [<- h.2.1]; simp only [Bool.and_eq_false_iff, beq_eq_false_iff_ne]; exact .inr fun e => h.1 e.symm
  have := h2 (by omega) hb
  show (r : Int) < (Kn _ _ _ : Nat); unfold Kn; omega
 ·have hb : Lp (o.v 7300) (o.v 7301) (o.v 7302) r = false := by
    unfold Lp; simp only [Bool.and_eq_false_iff, beq_eq_false_iff_ne]; exact .inl fun e => h.1 e.symm
  have := h2 (by omega) hb
  show (r : Int) < (Kn _ _ _ : Nat); unfold Kn; omega
 ·omega
theorem XV (hu : OU o) : br o coL := by
 simp only [coL, al, av, and_true]; intro h; simp only [SS, implies_true, hu.Rr]; omega
theorem QE (hu : OU o) {r : Nat} (hr : o.v 2121 = .i r) : br o Wq := by
 simp only [Wq, al, av, and_true]
 and_intros
 all_goals intro h
 all_goals simp only [SS, implies_true, hr, hu.aeq] at h ⊢
 have := abQ (Rv (l := o.v 7307) (r := r)) (n := (o.v 7307).T.length); unfold Kn; omega
theorem GR (hu : OU o) : br o abw /\ br o ssL /\ br o slL /\ br o soL /\ br o saL := by
 simp only [abw, ssL, slL, soL, saL, al, av, and_true]
 and_intros
 all_goals intro h
 all_goals simp only [SS, implies_true]
theorem Rh (hu : OU o) {r : Nat} (hr : o.v 2130 = .i r) (hle : (r : Int) <= ((E.uf 134 (pk [.v 7400])).den o).I) : br o Wg := by
 simp only [pk, List.foldr, SS, implies_true, hu.U3] at hle; have hle : r <= gN (q7 (o.v 7400)) (o.v 7400).T.length := by omega
 simp only [Wg, al, av, and_true]
 and_intros
 all_goals intro h
 all_goals simp only [SS, implies_true, hr, hu.aa5, hu.U3, aw, da, Classical.not_not] at h ⊢
 ·exact iB (r := r) (by omega) (fun q => by unfold q7 at q; omega)
 ·exact iB (r := r) (by omega) (fun q => by unfold q7 at q; omega)
 ·have := xj hle (by omega) (by unfold q7; omega); omega
 ·exact r6 hle (by omega)
theorem Y2 (hu : OU o) : br o z6L := by
 simp only [z6L, al, av, and_true]
 and_intros
 all_goals intro h
 all_goals simp only [SS, implies_true, hu.aa5, hu.acO, aw, da, uz, uB, Classical.not_not, Ia] at h ⊢
 ·omega
 ·exact fun q => h.1 q.1
 ·exact ⟨h.1, by omega⟩
theorem Yg (hu : OU o) : br o z5L := by
 simp only [z5L, al, av, and_true]
 and_intros
 all_goals intro h
 all_goals simp only [SS, implies_true, hu.acO, hu.Jr, aw, da, uz, uB, Classical.not_not, JN] at h ⊢
 ·omega
 ·omega
 ·omega
 ·omega
 ·omega
 ·exact ⟨by omega, by omega, by omega, by omega, h.2.1, by omega⟩
 ·exact fun q => h.1 q.2.2.2.2.1
theorem K7 (hu : OU o) {r : Nat} (hr : o.v 2131 = .i r) (hle : (r : Int) <= ((E.uf 138 (pk [.v 7420])).den o).I) : br o L6 := by
 simp only [pk, List.foldr, SS, implies_true, hu.X0] at hle; have hle : r <= gN (q5 (o.v 7420)) (o.v 7420).T.length := by omega
 simp only [L6, al, av, and_true]
 and_intros
 all_goals intro h
 all_goals simp only [SS, implies_true, hr, hu.Jr, hu.aa1, hu.X0, aw, da, Classical.not_not] at h ⊢
 ·have := xj hle (by omega) h.1; omega
 ·exact iB (r := r) (by omega) h.1
 ·exact r6 hle (by omega)
theorem Pr (hu : OU o) : br o Xq := by
 simp only [Xq, al, av, and_true]
 and_intros
 all_goals intro h
 all_goals simp only [SS, implies_true, hu.aa1, hu.RC, aw, da, uz, uB, Classical.not_not, sV] at h ⊢
 ·omega
 ·exact fun q => h.1 q.1
 ·exact ⟨h.1, by omega⟩
theorem Rx (hu : OU o) {r : Nat} (hr : o.v 2133 = .i r) (hle : (r : Int) <= ((E.uf 144 (pk [.v 7430, .v 7431])).den o).I) : br o WR := by
 simp only [pk, List.foldr, SS, implies_true, hu.Xv] at hle; have hle : r <= gN (qd (o.v 7430) (o.v 7431)) (o.v 7430).T.length := by omega
 simp only [WR, al, av, and_true]
 and_intros
 all_goals intro h
 all_goals simp only [SS, implies_true, hr, hu.aay, hu.Xv, aw, da, Classical.not_not] at h ⊢
 ·exact iB (r := r) (by omega) (fun q => q h.1)
 ·have := xj hle (by omega) h.1; omega
 ·exact r6 hle (by omega)
theorem MX (hu : OU o) {r : Nat} (hr : o.v 2134 = .i r) (hent : (Iz.aV 0).aB o) (hle : (r : Int) <= ((E.uf 146 (pk [.v 7433])).den o).I) : br o Lb := by
 simp only [Iz, Ow, AN, aH, pk, List.foldr, SS, implies_true, hu.X4] at hent hle; have hle : r <= gN (qp (o.v 7433)) (o.v 7433).T.length := by omega
 simp only [Lb, al, av, and_true]
 and_intros
 all_goals intro h
 all_goals simp only [SS, implies_true, hr, hu.aay, hu.abv, hu.X4, aw, da, Classical.not_not, List.length_take] at h ⊢
 ·refine ⟨iB (r := r) (by omega) (fun q => ?_), by omega, by omega⟩
  have q3 := q.2.2; rw [List.length_take] at q3; exact h.1 q3
 ·have := xj hle (by omega) ⟨by omega, by omega, by rw [List.length_take]; exact h.1⟩
  exact ⟨by omega, by omega, by omega⟩
 ·exact iB (r := r) (by omega) (fun q => by have := q.2.1; omega)
 ·exact iB (r := r) (by omega) (fun q => by have := q.1; omega)
 ·exact r6 hle (by omega)
theorem R3 (hu : OU o) : br o UU := by
 simp only [UU, al, av, and_true]
 and_intros
 all_goals intro h
 all_goals simp only [SS, implies_true, hu.abv, hu.Zw, aw, da, uz, uB, GO, Classical.not_not, vr] at h ⊢
 ·exact fun q => h q.1
 ·exact ⟨fun q => ⟨h, by omega⟩, fun q => by omega⟩
theorem X2 (hu : OU o) {r : Nat} (hr : o.v 2135 = .i r) (hle : (r : Int) <= ((E.uf 149 (pk [.v 7436])).den o).I) : br o shL := by
 simp only [pk, List.foldr, SS, implies_true, hu.Yr] at hle; have hle : r <= gN (qs (o.v 7436)) (o.v 7436).S.size := by omega
 simp only [shL, al, av, and_true]
 and_intros
 all_goals intro h
 all_goals simp only [SS, implies_true, O7, XB, hr, hu.adf, hu.Yr, aw, da, Classical.not_not] at h ⊢
 ·exact iB (r := r) (by omega) (fun q => q h.1)
 ·have := xj hle (by omega) (Q := qs (o.v 7436)) h.1; omega
 ·exact r6 hle (by omega)
theorem XY (hu : OU o) (hent : Re.aV.aB o) : br o smL := by
 simp only [Re, rD, abS, vE, pk, List.foldr, Nat.reduceAdd, SS, implies_true, hu.Jr, aw] at hent; obtain ⟨g0, g1, g2, g3, g4, g5⟩ := hent; simp only [smL, al, av, and_true]
 and_intros
 all_goals intro h
 all_goals simp only [SS, implies_true, hu.Zw, hu.adf, hu.V8, aw, da, uz, uB, GO, adG, LK, Classical.not_not, small, Ya] at h ⊢
 all_goals and_intros
 all_goals try omega
 all_goals first
  | exact fun q => h q.1
  | exact fun q => h.1 q.2.1
  | exact fun q => h.1 q.2.2.2.2.2.2.2.2.1
  | exact fun q => by have := q.2.2.2.2.2.2.2.2.2.1; rw [h.1] at this; cases this
  | exact ⟨fun q => ⟨h.2.2.2.2.2.2.2.2.2, h.2.2.2.2.2.2.2.2.1, by omega, by omega, by omega, by omega, by omega, by omega, h.2.1, h.1, q⟩, fun q => q.2.2.2.2.2.2.2.2.2.2⟩
theorem MT (hu : OU o) {r : Nat} (hr : o.v 2136 = .i r) (hent : (Jg.aV 0).aB o) (hle : (r : Int) <= ((E.uf 152 (pk [.v 7450])).den o).I) : br o Mp := by
 simp only [Jg, Ow, pk, List.foldr, SS, implies_true, hu.RC, hu.U5, aw] at hent hle; have hle : r <= gN (Zg (o.v 7450)) (o.v 7450).T.length := by omega
 obtain ⟨f1, f2⟩ := hent; simp only [Mp, al, av, and_true]
 and_intros
 all_goals intro h
 all_goals simp only [SS, implies_true, hr, hu.Jr, hu.V8, hu.ads, hu.U5, aw, da, Classical.not_not] at h ⊢
 ·have := xj hle (by omega) h.1
  exact ⟨by omega, by omega, f1 r (by omega)⟩
 ·exact ⟨iB (r := r) (by omega) h.1, f1 r (by omega)⟩
 ·exact r6 hle (by omega)
theorem R0 (hu : OU o) : br o VV := by
 simp only [VV, al, av, and_true]
 and_intros
 all_goals intro h
 all_goals simp only [SS, implies_true, hu.ads, hu.aew, aw, da, uz, uB, GO, Classical.not_not, vA] at h ⊢
 ·exact fun q => h q.1
 ·exact ⟨fun q => ⟨h, by omega⟩, fun q => by omega⟩
end
end Go.Proofs.YtdlppkhmmclipaaGreat.sxObj
