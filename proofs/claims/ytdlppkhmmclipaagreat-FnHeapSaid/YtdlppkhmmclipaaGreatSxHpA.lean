/-
  What functions have to show, as printed.
-/
import Derived.Test.YtdlppkhmmclipaaGreatSxMLoopH
import Derived.Shelf.Sort.Plain
import Derived.Sort.KeysCollected
import Derived.Test.YtdlppkhmmclipaaGreatChecked
import Derived.Sort.Walk0
namespace Go.Sx
open Go.RowKit Go.Sort Go.Proofs
set_option linter.unusedVariables false
set_option linter.unusedSimpArgs false
def gH : aJ := .cons .str .nil
def jH (r : List Dv) : List UInt8 := (r.headD (.i 0)).S.data.toList
def Nc (b : List UInt8) : List Dv := [.s ⟨b.toArray⟩]
def eM (l : List (List Dv)) : List (List Dv) := ((l.map jH).mergeSort leB).map Nc
theorem zH {l : List (List Dv)} : (eM l).length = l.length := by simp [eM]
theorem Ft {l l' : List (List Dv)} (h : l.Perm l') : eM l = eM l' := by
 unfold eM; rw [mergeSort_of_perm (h.map jH)]
def rD (c : Nat) (e : E) : E := .uf c (.o2 .b9 e (.il 0))
def Ha (c : Nat) (n : Nat) (T : TypeId) (len e : E) (nx : Nat) : Prog (SV × Nat) := do
 j6 (jW .aN len (gk .ab e))
 j6 (lk len (.il 4611686018427387903))
 iR n (.row T 1 len [.tc .str (rD c e) 0] [])
 return (.fm [], nx)
def y8 (c : Nat) (args : List SV) (nx : Nat) : Option (Prog (SV × Nat)) :=
 match args with
 | [.bO] => some (.ret (.fm [], nx))
 | [.sl n 1 (.il 0) len] => some (do
   let o <- eZ n
   match o with
   | .sm T (.cons .str .nil) e => Ha c n T len e nx
   | .row T 1 rl [.tc .str e 0] [] => do
     j6 (jW .aN rl (gk .ab e))
     Ha c n T len e nx
   | _ => .fail "sort: of what")
 | _ => none
def Ll (f : FuncId) : cA := { f := f, args := [.bR gH (.il 0)], params := [], aU := [], app := fun _ => true, bp := [(.bl true, 0)], kind := fun _ => some 0, out := fun _ => .fm [], X := di.none, fuel := 300, np := 20 }
theorem xm {P : Program} (hP : Plain P) (hM : P.follows .mixedOrders = true) {f : FuncId} (ho : (Ll f).iJ P = some [([], [])]) (w : World) (A : Option Addr) (cap : Nat) :
    Calls P f #[.slice A 0 cap] w fun e w' => e = .returned (.tuple #[]) /\ Kept (anchor w) w' := by
 have h := cA.w8 hP hM ho (e' := z8 fun _ _ => .i 0) (fun A => cu) gy (by simp only [af, au, and_true]; intro _ y hy; cases hy)
 have h0 : aE (z8 fun _ _ => .i 0) (nt w ⟨fun _ => none, ⟨fun _ => none, fun _ _ => none⟩⟩) ⟨fun _ => none, ⟨fun _ => none, fun _ _ => none⟩⟩ (bm (ox [])) w :=
  qG ⟨rfl, rfl, rfl, Nat.le_refl _, fun _ _ => rfl⟩ rfl (fun b x h => by cases h) (fun b x h => by cases h)
 refine (h w _ [.slice A 0 cap] h0 ⟨_, [], rfl, ⟨A, cap, rfl, Nat.zero_le _, fun h => absurd h (Nat.lt_irrefl 0)⟩, rfl⟩).mono fun e w' hq => ?_; obtain ⟨m, xs, ρ', v, nq, e2, hh, rfl, hxs, t1, hle', HS, hnx, g1⟩ := hq; obtain ⟨x, rfl, hx⟩ := g1; have hx : x = [] := hx; subst hx; exact ⟨rfl, ⟨HS.below.os, HS.below.tape, HS.below.output, HS.below.size, HS.below.block⟩⟩
theorem BX {w : World} {b : Nat} {cs : Array Value} {T : TypeId} {fr : Nat × Nat} (h : w.heap[b]? = some (.cells cs T fr)) (f : Array Value -> Array Value) : mapBlock w b f = w.bg b (.cells (f cs) T fr) := by
 have cU := (Array.getElem?_eq_some_iff.1 h).1; unfold mapBlock World.bg
 congr 1
 apply Array.ext_getElem?
 intro k; rw [Array.getElem?_modify]
 by_cases hk : b = k
 ·subst hk; rw [if_pos rfl, h, Array.getElem?_setIfInBounds, if_pos rfl, if_pos cU]; rfl
 ·simp [hk]
theorem sd {d : Array (List UInt8)} {cs : Array Value} (h : d.size <= cs.size) : (Go.Sort.putCells encStr 0 d cs).toList = (d.toList.map encStr) ++ cs.toList.drop d.size := by
 apply List.ext_getElem?
 intro k; unfold Go.Sort.putCells; rw [Array.getElem?_toList, Array.getElem?_mapIdx]
 by_cases hk : k < d.size
 ·have hkc : k < cs.size := by omega
  rw [List.getElem?_append_left (by simpa using hk)]
  simp [hk, hkc, Array.getElem?_eq_getElem hkc]
 ·rw [List.getElem?_append_right (by simp; omega)]
  simp only [List.length_map, Array.length_toList, List.getElem?_drop]; rw [show d.size + (k - d.size) = k by omega, Array.getElem?_toList]
  cases hc : cs[k]? with
  | none => simp
  | some v => simp [hk]
section
variable {P : Program} {env : Env} {A : Anchor} {ρ : ah} {h : aL} {w : World}
theorem aE.sorted (H : aE env A ρ h w) {n : Nat} {T : TypeId} {e : E} {c : Nat} {len : E} {p : Pl} {l : List (List Dv)} {cs : Array Value} {o : aD} (hn : aA h n = some o) (ho : o.owner = true) (hp : ρ n = some p) (hK : ¬ A.K p.block) (hb0 : p.base = 0) (hni : p.nil = false)
    (hw : w.heap[p.block]? = some (.cells cs T (0, 0))) (hbag : wh gH ρ.fz (e.den env) p l cs) (hlen : (len.den env).I = ((e.den env).T.length : Int)) (hu : ∀ d, env.uf c d = .t (eM (d.row.headD (.i 0)).T)) (k : Nat) (os : Array Obj) :
    aE env A ρ (bh h n (.row T 1 len [.tc .str (rD c e) 0] [])) (grow (putRow encStr (Sort.ahead w k) p.block 0 ((l.map jH).mergeSort leB).toArray) os) := by
 have H1 : aE env A ρ h (Sort.ahead w k) := H.drawn rfl rfl rfl rfl; have hw1 : (Sort.ahead w k).heap[p.block]? = some (.cells cs T (0, 0)) := hw; obtain ⟨b1, b2, b3, b4⟩ := hbag; have hd1 : gH.len = 1 := rfl; rw [hd1, Nat.mul_one] at b2; have hsl : ((l.map jH).mergeSort leB).toArray.size = l.length := by simp
 have hsort : eM (e.den env).T = ((l.map jH).mergeSort leB).map Nc := by rw [<- Ft b1]; rfl
 have hcells := sd (d := ((l.map jH).mergeSort leB).toArray) (cs := cs) (by rw [hsl]; omega)
 have hpr : putRow encStr (Sort.ahead w k) p.block 0 ((l.map jH).mergeSort leB).toArray = (Sort.ahead w k).bg p.block (.cells (Go.Sort.putCells encStr 0 ((l.map jH).mergeSort leB).toArray cs) T (0, 0)) := BX hw1 _
 have hden : ((rD c e).den env) = .t (eM (e.den env).T) := by
  show env.uf c _ = _; rw [hu]; rfl
 have hlN : (len.den env).I.toNat = l.length := by rw [hlen, Int.toNat_natCast, b1.length_eq]
 have H2 : aE env A ρ (bh h n (.row T 1 len [.tc .str (rD c e) 0] [])) ((Sort.ahead w k).bg p.block (.cells (Go.Sort.putCells encStr 0 ((l.map jH).mergeSort leB).toArray cs) T (0, 0))) := by
  refine H1.update hn ho hp rfl ⟨p, ((l.map jH).mergeSort leB).map encStr, cs.toList.drop l.length, hp, hK, hb0, hni, ⟨_, [], (List.append_nil _).symm, by rw [hlN]; simp, fun i hi j bY hc => ?_, rfl, (fun t ht => by cases ht), Nat.le_refl _⟩, ?_, ?_⟩
  ·rw [hlN] at hi; cases j with
   | succ j => simp at hc
   | zero =>
     simp only [List.getElem?_cons_zero, Option.some.injEq] at hc; subst hc; have hil : i < ((l.map jH).mergeSort leB).length := by simpa using hi
     refine ⟨encStr ((l.map jH).mergeSort leB)[i], by rw [Nat.mul_one, Nat.add_zero, List.getElem?_map, List.getElem?_eq_getElem hil]; rfl, ?_⟩
     rw [ch.at, cQ]; simp only [DK.Rel, E.den, O2.den]
     have e1 : (((rD c e).den env).at ((i : Int).toNat) 0) = .s ⟨((l.map jH).mergeSort leB)[i].toArray⟩ := by
      rw [hden, hsort]; unfold Dv.at; simp only [Dv.T, Int.toNat_natCast, List.getElem?_map, List.getElem?_eq_getElem hil, Option.map_some, Option.getD_some, Nc, List.getElem?_cons_zero]
     rw [show (Dv.i (i : Int)).I.toNat = ((i : Int).toNat) from rfl, e1]; rfl
  ·simp only [List.length_append, List.length_map, List.length_mergeSort, List.length_drop, Array.length_toList]; omega
  ·have := bx (w := Sort.ahead w k) (o := .cells (Go.Sort.putCells encStr 0 ((l.map jH).mergeSort leB).toArray cs) T (0, 0)) hw1; rw [this, <- hsl]
   congr 1
   show Obj.cells _ T (0, 0) = _
   congr 1
   rw [<- Array.toList_inj, hcells]
 rw [hpr]; refine H2.stay ⟨rfl, rfl, rfl, ?_, fun b hb => ?_⟩
 ·simp [grow, anchor]
 ·show (_ ++ os)[b]? = _; exact Array.getElem?_append_left hb
end
theorem IJ (w : World) (b : Nat) : putRow encStr w b 0 (([] : List (List UInt8)).toArray) = w := by
 refine mapBlock_id w b _ fun c e fr _ => ?_; rw [<- Array.toList_inj, sd (Nat.zero_le _)]; rfl
theorem O0 {P : Program} (hP : Plain P) (hM : P.follows .mixedOrders = true) {f : FuncId} (ho : (Ll f).iJ P = some [([], [])]) {env : Env} {c : Nat}
    (hs : ∀ (blk off cap : Nat) (ss : List (List UInt8)) (w : World), Holds encStr w blk off ss.toArray -> blk < w.heap.size -> ss.length < 4611686018427387904 ->
     Calls P f #[.slice (some ⟨blk, off, none⟩) ss.length cap] w fun e w' => e = .returned (.tuple #[]) /\ ∃ n os, w' = grow (putRow encStr (Sort.ahead w n) blk off (ss.mergeSort leB).toArray) os)
    (hu : ∀ d, env.uf c d = .t (eM (d.row.headD (.i 0)).T)) : eg P env f (y8 c) := by
 intro w0 args nx p h r h' nx' hp hr; unfold y8 at hp; split at hp
 ·injection hp with hp; subst hp; simp only [aW, Prod.mk.injEq] at hr; obtain ⟨⟨rfl, rfl⟩, rfl⟩ := hr; refine ⟨Nat.le_refl _, fun ρ w vs H hn ha => ?_⟩; simp only [SV.aF, SV.Rel] at ha; obtain ⟨v, q, rfl, rfl, rfl⟩ := ha; refine (xm hP hM ho w none 0).mono fun e w' hq => ?_; obtain ⟨rfl, K⟩ := hq; exact ⟨ρ, _, rfl, ah.le_refl ρ, H.stay K, hn, [], rfl, rfl⟩
 ·rename_i n len; injection hp with hp; subst hp
  have main : ∀ (T : TypeId) (e : E) (o : aD), aA h n = some o -> o.owner = true -> (∀ {A : Anchor} {ρ : ah} {w : World}, aE env A ρ h w -> (aD.sm T gH e).Rel env A ρ n w) -> (Ha c n T len e nx).bz env h (r, nx') h' ->
      nx <= nx' /\ ∀ ρ w vs, aE env w0 ρ h w -> (∀ n p, ρ n = some p -> n < nx) -> SV.aF env ρ [.sl n 1 (.il 0) len] vs ->
       Calls P f vs.toArray w fun e w' => ∃ ρ' v, e = .returned v /\ ρ.le ρ' /\ aE env w0 ρ' h' w' /\ (∀ n p, ρ' n = some p -> n < nx') /\ r.Rel env ρ' v := by
   intro T e o aA ho' hbag hrun; simp only [Ha, run_bind, bV, bB, run_pure, Prod.mk.injEq] at hrun; obtain ⟨_, _, ⟨h1, rfl⟩, _, _, ⟨h2, rfl⟩, _, _, rfl, ⟨rfl, rfl⟩, rfl⟩ := hrun
   have hlen : (len.den env).I = ((e.den env).T.length : Int) := by
    rw [bq] at h1; have h1 : ((len.den env).I == ((gk .ab e).den env).I) = true := h1; rw [bA] at h1; exact eq_of_beq h1
   have hmax : (len.den env).I <= 4611686018427387903 := by
    rw [B9, dT] at h2; exact of_decide_eq_true h2
   refine ⟨Nat.le_refl _, fun ρ w vs H hn ha => ?_⟩; obtain ⟨p, l, cs, q1, q2, q3, q4, q5, q6⟩ := hbag H; simp only [SV.aF, SV.Rel] at ha; obtain ⟨v, q, rfl, ⟨p', A', g1, rfl, g2, g3, g4, g5⟩, rfl⟩ := ha; rw [q1] at g1; injection g1 with g1; subst g1; have hz0 : ((E.il 0).den env).I.toNat = 0 := rfl; rw [hz0] at g3 g4 ⊢; have hlN : (len.den env).I.toNat = l.length := by rw [hlen, Int.toNat_natCast, q6.1.length_eq]
   have put := fun k os => H.sorted (n := n) (c := c) (len := len) aA ho' q1 q2 q3 q4 q5 q6 hlen hu k os; rcases Nat.eq_zero_or_pos l.length with h0 | h0
   ·rw [hlN, h0]; refine (xm hP hM ho w A' (p.cap - 0)).mono fun e w' hq => ?_; obtain ⟨rfl, K⟩ := hq; have H0 := put 0 #[]; have hl0 : l = [] := List.length_eq_zero_iff.1 h0; rw [hl0] at H0; simp only [List.map_nil, List.mergeSort_nil, grow_empty, ahead_zero, IJ] at H0; exact ⟨ρ, _, rfl, ah.le_refl ρ, H0.stay K, hn, [], rfl, rfl⟩
   ·have hcap := q6.2.2.1; have hA := g3 (by omega)
    rw [q3, Nat.zero_mul] at hA; subst hA; have hd1 : gH.len = 1 := rfl
    have hH : Holds encStr w p.block 0 (l.map jH).toArray := by
     intro j hj; have hjl : j < l.length := by simpa using hj
     have := q6.2.2.2 j hjl; simp only [gH, aJ.Rel, DK.Rel, aJ.len] at this; obtain ⟨⟨v, v1, v2⟩, _⟩ := this; simp only [Nat.zero_add, Nat.mul_one, Nat.add_zero] at v1 v2; constructor
     ·show (match w.heap[p.block]? with | some (.cells c _ _) => c[0 + j]? | _ => none) = _
      rw [q5, Nat.zero_add]; show cs[j]? = _; rw [v1, v2]
      have : ((l.map jH).toArray)[j]! = jH l[j] := by
       rw [getElem!_pos _ j (by simpa using hjl)]
       simp
      rw [this]
      congr 1
      show Value.string _ = Value.string _
      have e1 : (Dv.t l).at j 0 = l[j].headD (.i 0) := by
       unfold Dv.at; simp only [Dv.T, List.getElem?_eq_getElem hjl, Option.getD_some]; cases l[j] <;> rfl
      rw [e1]; unfold jH; simp
     ·show World.frozen? w _ = false; simp [World.frozen?, q5]
    have hsz : (l.map jH).length < 4611686018427387904 := by simp; omega
    have hblk := (Array.getElem?_eq_some_iff.1 q5).1; have := hs p.block 0 (p.cap - 0) (l.map jH) w hH hblk hsz; rw [List.length_map] at this; rw [hlN]; refine this.mono fun e w' hq => ?_; obtain ⟨rfl, k, os, rfl⟩ := hq; exact ⟨ρ, _, rfl, ah.le_refl ρ, put k os, hn, [], rfl, rfl⟩
  simp only [run_bind, aX] at hr; obtain ⟨o, _, ⟨ho1, rfl⟩, hr⟩ := hr; split at hr
  ·rename_i T e; exact main T e _ ho1 rfl (fun H => H.bj n _ ho1) hr
  ·rename_i T rl e; simp only [run_bind, bV] at hr; obtain ⟨_, _, ⟨h1, rfl⟩, hr⟩ := hr; refine main T e _ ho1 rfl (fun H => ?_) hr
   have hrl : (rl.den env).I = ((e.den env).T.length : Int) := by
    rw [bq] at h1; have h1 : ((rl.den env).I == ((gk .ab e).den env).I) = true := h1; rw [bA] at h1; exact eq_of_beq h1
   have := aD.fJ env env id (A := _) (B := _) (fun _ h => h) (n := n) (m := n) (o := .row T 1 rl [.tc .str e 0] []) (o' := .sm T gH e) ⟨rfl, rfl, Nat.one_pos, rfl, e, rfl, hrl, List.Perm.refl _⟩ rfl rfl (H.bj n _ ho1); exact this
  ·exact hr.elim
 ·cases hp
end Go.Sx
namespace Go.Sx
open Go.RowKit cA
set_option linter.unusedVariables false
set_option linter.unusedSimpArgs false
def CY (P : Program) (o : Env) : List (FuncId × (List SV -> Nat -> Option (Prog (SV × Nat)))) -> Prop
 | [] => True
 | x :: l => eg P o x.1 x.2 /\ CY P o l
def CD (P : Program) (o : Env) : List (FuncId × Nat × (Fr -> Nat -> Option (Prog (eQ × Fr × Nat)))) -> Prop
 | [] => True
 | x :: l => dz P o x.1 x.2.1 x.2.2 /\ CD P o l
theorem CY.mem {P : Program} {o : Env} : ∀ {l : List (FuncId × (List SV -> Nat -> Option (Prog (SV × Nat))))}, CY P o l -> ∀ x ∈ l, eg P o x.1 x.2
 | [], _, x, hx => by cases hx
 | y :: l, ⟨h, k⟩, x, hx => by
   rcases List.mem_cons.1 hx with rfl | hx
   ·exact h
   ·exact k.mem x hx
theorem CD.mem {P : Program} {o : Env} : ∀ {l : List (FuncId × Nat × (Fr -> Nat -> Option (Prog (eQ × Fr × Nat))))}, CD P o l -> ∀ x ∈ l, dz P o x.1 x.2.1 x.2.2
 | [], _, x, hx => by cases hx
 | y :: l, ⟨h, k⟩, x, hx => by
   rcases List.mem_cons.1 hx with rfl | hx
   ·exact h
   ·exact k.mem x hx
theorem br {P : Program} {o : Env} {c : gW} (hap : c.Yr.all (fun x => kW P x.1) = true) (hf : CY P o c.fns) (hl : CD P o c.Yr) (A : Anchor) : ew P o A (c.x.cN P) := gW.ok hap hf.mem hl.mem A
theorem pz {P : Program} {o : Env} {c : gW} (hap : c.Yr.all (fun x => kW P x.1) = true) (hf : CY P o c.fns) (hl : CD P o c.Yr) (A : Anchor) : ew P o A (c.x.vP.cN P) := gW.ok hap hf.mem hl.mem A
theorem E.nH {e e' : Env} (hv : e.v = e'.v) (hf : e.fn = e'.fn) (hu : e.uf = e'.uf) : ∀ x : E, x.den e = x.den e'
 | .v n => congrFun hv n
 | .il _ => rfl
 | .bl _ => rfl
 | .sl _ => rfl
 | .fn c a => by show e.fn c _ = e'.fn c _; rw [hf, E.nH hv hf hu a]
 | .uf c a => by show e.uf c _ = e'.uf c _; rw [hu, E.nH hv hf hu a]
 | .o1 o a => by show o.den _ = o.den _; rw [E.nH hv hf hu a]
 | .o2 o a b => by show o.den _ _ = o.den _ _; rw [E.nH hv hf hu a, E.nH hv hf hu b]
 | .ext a b c => by simp only [E.den, E.nH hv hf hu a, E.nH hv hf hu b, E.nH hv hf hu c]
theorem gK (D : ak) {e : Env} {u : Nat -> Value} {i : Nat} {x : E} (h : x.dy D.r = true) : x.den (D.env e u i) = x.den e := by
 rw [E.nH (e := D.env e u i) (e' := yw e D.r (.i i)) rfl rfl rfl x]; exact E.bF (Df e D.r (.i i)) h
theorem fN (D : ak) {e : Env} {u : Nat -> Value} {i : Nat} {fs : aa} (h : Jz D.r fs = true) (hf : fs.ay e) : fs.ay (D.env e u i) := fun x b hm => by
 rw [gK D (List.all_eq_true.1 h _ hm)]; exact hf x b hm
theorem ed (D : ak) {e : Env} {u : Nat -> Value} {i : Nat} : (D.env e u i).v D.r = .i i := by
 show (if D.r = D.r then _ else _) = _
 rw [if_pos rfl]
structure gE (P : Program) (D : ak) (aB : E) (L : List (aa × List Ob)) : Prop where
 ob : D.iJ P 0 = some L
 body : ((P.funcs[D.f]?).bind (·.body)).isSome = true
 fs : (D.hd 0).fs = (.o2 .le (.il 0) (.v D.r), true) :: (.o2 .le (.v D.r) aB, true) :: D.aU 0
 no : (Jz D.r (D.aU 0) && aB.dy D.r) = true
 lt : D.lt = .o2 .lt (.v D.r) aB
 k : ∀ m, D.mS m = true -> m = 0
 t : ∀ m, D.ll m = true -> m = 0
 hx : ∀ ν, ((D.hx ν).h.all fun x => bW x.2) = true
theorem gE.ok {P : Program} (hP : Plain P) (hM : P.follows .mixedOrders = true) {D : ak} {aB : E} {L : List (aa × List Ob)} (C : gE P D aB L) {env : Env}
    (hnn : ∀ o, o.uf = env.uf -> (D.aU 0).ay o -> 0 <= (aB.den o).I)
    (hX : ∀ o A, o.uf = env.uf -> ew P o A (D.X.cN P))
    (hL : ∀ o (i : Nat), o.uf = env.uf -> (D.aU 0).ay o -> o.v D.r = .i i -> (i : Int) <= (aB.den o).I -> bo o L) : dz P env D.f D.key D.cW := by
 have hno := C.no; rw [Bool.and_eq_true] at hno
 have hln : ∀ {e' : Env} {u : Nat -> Value} {i : Nat}, D.aU 0 |>.ay e' -> ak.jJ D env e' -> i <= (aB.den e').I.toNat -> (i : Int) <= (aB.den (D.env e' u i)).I := fun {e' u i} h he hi => by
  rw [gK D hno.2]; have := hnn e' he.uf h; omega
 refine FW hP hM C.body (fun e => (aB.den e).I.toNat) C.ob C.k C.t C.hx (fun e' i u A he _ _ => hX _ A he.uf) (fun e' he h i u hi => hL _ i he.uf (fN D hno.1 h) (ed D) (hln h he hi)) (fun e' he h i u hi => ?_) (fun e' he h i u hi hl => ?_)
 ·rw [C.fs]; refine bS.2 ⟨?_, bS.2 ⟨?_, fN D hno.1 h⟩⟩
  ·rw [sJ, wY, HC, ed]; exact decide_eq_true (Int.natCast_nonneg i)
  ·rw [sJ, HC, ed]; exact decide_eq_true (hln h he hi)
 ·rw [C.lt, Ea, HC, ed, gK D hno.2] at hl; have hl := of_decide_eq_true hl; have : (Dv.i (i : Int)).I = i := rfl; omega
structure E1 (P : Program) (D : ak) (aB : E) (L0 L1 : List (aa × List Ob)) : Prop where
 NT : D.iJ P 0 = some L0
 YW : D.iJ P 1 = some L1
 body : ((P.funcs[D.f]?).bind (·.body)).isSome = true
 fs0 : (D.hd 0).fs = (.o2 .aN (.v D.r) (.il 0), true) :: (.o2 .le (.il 0) (.v D.r), true) :: (.o2 .le (.v D.r) aB, true) :: D.aU 0
 DP : (D.hd 1).fs = (.o2 .lt (.il 0) (.v D.r), true) :: (.o2 .le (.il 0) (.v D.r), true) :: (.o2 .le (.v D.r) aB, true) :: D.aU 0
 no : (Jz D.r (D.aU 0) && aB.dy D.r) = true
 lt : D.lt = .o2 .lt (.v D.r) aB
 k : ∀ m, D.mS m = true -> m = 0
 t : ∀ m, D.ll m = true -> m = 1
 hx : ∀ ν, ((D.hx ν).h.all fun x => bW x.2) = true
theorem E1.ok {P : Program} (hP : Plain P) (hM : P.follows .mixedOrders = true) {D : ak} {aB : E} {L0 L1 : List (aa × List Ob)} (C : E1 P D aB L0 L1) {env : Env}
    (hnn : ∀ o, o.uf = env.uf -> (D.aU 0).ay o -> 0 <= (aB.den o).I)
    (hX : ∀ o A, o.uf = env.uf -> ew P o A (D.X.cN P))
    (hL0 : ∀ o, o.uf = env.uf -> (D.aU 0).ay o -> o.v D.r = .i (0 : Nat) -> 0 <= (aB.den o).I -> bo o L0)
    (hL1 : ∀ o (i : Nat), o.uf = env.uf -> (D.aU 0).ay o -> o.v D.r = .i i -> 0 < i -> (i : Int) <= (aB.den o).I -> bo o L1) : dz P env D.f D.key D.cW := by
 have hno := C.no; rw [Bool.and_eq_true] at hno
 have hln : ∀ {e' : Env} {u : Nat -> Value} {i : Nat}, D.aU 0 |>.ay e' -> ak.jJ D env e' -> i <= (aB.den e').I.toNat -> (i : Int) <= (aB.den (D.env e' u i)).I := fun {e' u i} h he hi => by
  rw [gK D hno.2]; have := hnn e' he.uf h; omega
 refine UX hP hM C.body (fun e => (aB.den e).I.toNat) C.NT C.YW C.k C.t C.hx (fun e' i u A he _ _ => hX _ A he.uf)
  (fun e' he h u => hL0 _ he.uf (fN D hno.1 h) (ed D) (by rw [gK D hno.2]; exact hnn e' he.uf h))
  (fun e' he h i u h0 hi => hL1 _ i he.uf (fN D hno.1 h) (ed D) h0 (hln h he hi)) (fun e' he h u => ?_) (fun e' he h i u h0 hi => ?_) (fun e' he h i u hi hl => ?_)
 ·rw [C.fs0]; refine bS.2 ⟨?_, bS.2 ⟨?_, bS.2 ⟨?_, fN D hno.1 h⟩⟩⟩
  ·rw [Mi, wY, HC, ed]; exact decide_eq_true rfl
  ·rw [sJ, wY, HC, ed]; exact decide_eq_true (Int.natCast_nonneg 0)
  ·rw [sJ, HC, ed]; exact decide_eq_true (hln h he (Nat.zero_le _))
 ·rw [C.DP]; refine bS.2 ⟨?_, bS.2 ⟨?_, bS.2 ⟨?_, fN D hno.1 h⟩⟩⟩
  ·rw [Ea, wY, HC, ed]; exact decide_eq_true (by show (0 : Int) < (i : Int); omega)
  ·rw [sJ, wY, HC, ed]; exact decide_eq_true (Int.natCast_nonneg i)
  ·rw [sJ, HC, ed]; exact decide_eq_true (hln h he hi)
 ·rw [C.lt, Ea, HC, ed, gK D hno.2] at hl; have hl := of_decide_eq_true hl; have : (Dv.i (i : Int)).I = i := rfl; omega
structure N7 (P : Program) (D : ak) (aB : E) (L : Nat -> List (aa × List Ob)) : Prop where
 ob : ∀ m, (D.mS m || D.ll m) = true -> D.iJ P m = some (L m)
 body : ((P.funcs[D.f]?).bind (·.body)).isSome = true
 fs : ∀ m, (D.hd m).fs = D.mf m ++ (.o2 .le (.il 0) (.v D.r), true) :: (.o2 .le (.v D.r) aB, true) :: D.aU 0
 aU : ∀ m, D.aU m = D.aU 0
 no : (Jz D.r (D.aU 0) && aB.dy D.r) = true
 lt : D.lt = .o2 .lt (.v D.r) aB
 hx : ∀ ν, ((D.hx ν).h.all fun x => bW x.2) = true
theorem N7.ok {P : Program} (hP : Plain P) (hM : P.follows .mixedOrders = true) {D : ak} {aB : E} {L : Nat -> List (aa × List Ob)} (C : N7 P D aB L) {env : Env}
    (hnn : ∀ o, o.uf = env.uf -> (D.aU 0).ay o -> 0 <= (aB.den o).I)
    (hX : ∀ o A, o.uf = env.uf -> ew P o A (D.X.cN P))
    (hL : ∀ o (i m : Nat), o.uf = env.uf -> (D.aU 0).ay o -> (D.mf m).ay o -> (D.mS m || D.ll m) = true -> o.v D.r = .i i -> (i : Int) <= (aB.den o).I -> bo o (L m)) : dz P env D.f D.key D.cW := by
 have hno := C.no; rw [Bool.and_eq_true] at hno
 have hln : ∀ {e' : Env} {u : Nat -> Value} {i : Nat}, D.aU 0 |>.ay e' -> ak.jJ D env e' -> i <= (aB.den e').I.toNat -> (i : Int) <= (aB.den (D.env e' u i)).I := fun {e' u i} h he hi => by
  rw [gK D hno.2]; have := hnn e' he.uf h; omega
 refine ak.FV hP hM C.body (fun e' he μ0 h0 hent => ?_) C.hx; rw [C.aU] at hent
 refine ⟨⟨(aB.den e').I.toNat, fun u i μ => (D.mS μ || D.ll μ) = true /\ (D.mf μ).ay (D.env e' u i), L, fun i u A _ => hX _ A he.uf, fun u i μ hm => C.ob μ hm.1,
  fun i μ u hm hi x hx hfx => iA (hL (D.env e' u i) i μ he.uf (fN D hno.1 hent) hm.2 hm.1 (ed D) (hln hent he hi)) x hx hfx, fun i μ u hm hi => ?_, fun i u hi hl => ?_,
  fun u i μ μ' hm ht hmf _ => ⟨μ', ⟨by rw [ht, Bool.or_true], hmf⟩, gx.refl _⟩, fun u hmf => ⟨μ0, ⟨by rw [h0, Bool.true_or], hmf⟩, gx.refl _⟩⟩⟩
 ·rw [C.fs]; refine jo hm.2 (bS.2 ⟨?_, bS.2 ⟨?_, fN D hno.1 hent⟩⟩)
  ·rw [sJ, wY, HC, ed]; exact decide_eq_true (Int.natCast_nonneg i)
  ·rw [sJ, HC, ed]; exact decide_eq_true (hln hent he hi)
 ·rw [C.lt, Ea, HC, ed, gK D hno.2] at hl; have hl := of_decide_eq_true hl; have : (Dv.i (i : Int)).I = i := rfl; omega
theorem ct {P : Program} (hP : Plain P) (hM : P.follows .mixedOrders = true) {D : cA} {env : Env} {L : List (aa × List Ob)} (nW : D.iJ P = some L)
    (hX : ∀ o A, o.uf = env.uf -> ew P o A (D.X.cN P)) (hL : ∀ o, o.uf = env.uf -> D.aU.ay o -> bo o L) : eg P env D.f D.aS :=
 Xy hP hM nW (fun e' A he => hX e' A he.uf) (fun e' he => hL e' he.uf)
def Wi (r : Nat) (m : Nat) (aB : E) : aa := (match m with | 0 => (.o2 .aN (.v r) (.il 0), true) | _ => (.o2 .lt (.il 0) (.v r), true)) :: (.o2 .le (.il 0) (.v r), true) :: [(.o2 .le (.v r) aB, true)]
def AG (f key N r : Nat) (J : List Nat) (fx : List (Nat × SV)) (out idx T : Nat) (dks : aJ) (res aB : E) (aU : aa) (params : List Nat) (X : di) (ex : Nat) (bj : aR := []) : ak where
 f := f; key := key; N := N; r := r; base := 5000 + 1000 * (r - 2000)
 js := J
 hd := fun m => ⟨fx ++ [(out, match m with | 0 => .bO | _ => .sl 8 dks.len (.il 0) (.v r)), (idx, .int .i64 (.v r))], (match m with | 0 => bj | _ => (8, .row T dks.len (.v r) (b8 dks res 0) []) :: bj), 9, Wi r m aB ++ aU⟩
 aU := fun _ => aU
 app := fun _ => true
 mS := fun m => Nat.beq m 0
 dI := fun sl => match nth sl out with | some .bO => .ret 0 | some (.sl ..) => .ret 1 | _ => .fail
 ll := fun m => Nat.beq m 1
 mf := fun _ => []
 hx := fun _ => ⟨fx ++ [(out, .bR dks res), (idx, .top)], bj, 9, []⟩
 sP := fun _ _ => .ret 0
 nS := fun _ => .exit ex
 bp := [(.bl true, 0)]
 fixed := bj.map (·.1)
 lt := .o2 .lt (.v r) aB
 X := X
 fuel := 300; np := 80
 params := params
 wW := [(T, dks)]
end Go.Sx
namespace Go.Proofs.YtdlppkhmmclipaaGreat
abbrev kD : Nat := 35
abbrev ni : Nat := 36
abbrev gZ : Nat := 47
abbrev kZ : Nat := 38
abbrev vw : Nat := 68
abbrev tM : Nat := 48
abbrev NI : Nat := 39
abbrev uB : Nat := 27
abbrev ic : Nat := 13
abbrev ik : Nat := 14
abbrev mC : Nat := 61
abbrev nA : Nat := 62
abbrev la : Nat := 64
abbrev sF : Nat := 15
abbrev eL : Nat := 31
abbrev pv : Nat := 65
abbrev Az : Nat := 86
abbrev Dm : Nat := 69
abbrev Ow : Nat := 89
abbrev e8 : Nat := 96
abbrev jd : Nat := 108
abbrev cH : Nat := 109
abbrev G4 : Nat := 116
abbrev Ge : Nat := 83
abbrev Qc : Nat := 82
abbrev Af : Nat := 159
abbrev NH : Nat := 160
abbrev BY : Nat := 133
abbrev qo : Nat := 30
abbrev r7 : Nat := 9
abbrev Kj : Nat := 20
abbrev FQ : Nat := 155
abbrev kC : Nat := 37
abbrev acm : Nat := 3
end Go.Proofs.YtdlppkhmmclipaaGreat
namespace Go.Proofs.YtdlppkhmmclipaaGreat.sxObj
open Go.Sx Go.RowKit Go.Proofs.YtdlppkhmmclipaaGreat
set_option linter.unusedVariables false
def jX (a b : Nat) : List Nat := (List.range (b - a)).map (· + a)
def gQ : aJ := .cons .str (.cons .str .nil)
def dp : aJ := .cons .str (.cons .str (.cons .str (.cons .str (.cons (.sl gQ) (.cons .str (.cons .bool (.cons .bool .nil)))))))
def oK : aJ := .cons .str (.cons .str (.cons .str (.cons .str (.cons (.sl gQ) (.cons .str (.cons .bool (.cons .bool (.cons .nilm .nil))))))))
def aC : DK := .ei Qc (.fp oK)
def aK : aJ := .cons aC .nil
def FZ (e : Nat -> E) (lab : SV) : List SV := [.str (e 0), .str (e 1), .str (e 2), .str (e 3), lab, .str (e 5), .bool (e 6), .bool (e 7)]
def qU (e : Nat -> E) : List SV := FZ e (.bR gQ (e 4))
def vE (b j : Nat) : E := .v (b + j)
def cE (x i : E) (j : Nat) : E := .o2 (.cell j) x i
def pk8 (e : Nat -> E) : List E := [e 0, e 1, e 2, e 3, e 4, e 5, e 6, e 7]
def Fq (e : Nat -> E) : E := .uf 110 (pk [e 0, e 1, e 4])
def u9 (l : E) : E := .uf 111 (pk [l])
def te (e : Nat -> E) : E := .uf 100 (pk [e 0, e 1])
def aB (l : E) : E := .o1 .ab l
def inE (e : Nat -> E) : E := rowOf [e 0, e 1, e 2, e 3, e 4, e 5, e 6, e 7, .il 0]
def AX : ak where
 f := kD; key := 3; N := 43; r := 2100; base := 105000
 js := jX 21 42
 hd := fun m => ⟨[(1, .ptr 1 (.c 0)), (3, .ptr 2 (.c 0)), (4, .int .i64 (.v 2100))],
  (match m with | 0 => [] | _ => [(8, .row NH 2 (.v 2100) (b8 gQ (.v 7104) 0) [])]) ++
  [(2, .cells Af (FZ (vE 7100) (match m with | 0 => .bO | _ => .sl 8 2 (.il 0) (.v 2100)) ++ [.cB])), (1, .cells qo (qU (vE 7100)))], 9,
  Wi 2100 m (aB (.v 7104)) ++ [(.o2 .le (aB (.v 7104)) (.il 2147483647), true)]⟩
 aU := fun _ => [(.o2 .le (aB (.v 7104)) (.il 2147483647), true)]
 app := fun _ => true
 mS := fun m => Nat.beq m 0
 dI := fun sl => match nth sl 3 with | some (.ptr n _) => .get n fun o => (match o with | .cells _ cs => (match nth cs 4 with | some .bO => .ret 0 | some (.sl ..) => .ret 1 | _ => .fail) | _ => .fail) | _ => .fail
 ll := fun m => Nat.beq m 1
 mf := fun _ => []
 hx := fun _ => ⟨[(1, .ptr 1 (.c 0)), (3, .ptr 2 (.c 0)), (4, .top)], [(2, .cells Af (qU (vE 7100) ++ [.cB])), (1, .cells qo (qU (vE 7100)))], 9, []⟩
 sP := fun _ _ => .ret 0
 nS := fun _ => .exit 0
 bp := [(.bl true, 0)]
 fixed := [1, 2]
 lt := .o2 .lt (.v 2100) (aB (.v 7104))
 X := di.none
 fuel := 300; np := 80
 params := jX 7100 7108
 wW := [(NH, gQ)]
def l8 : cA where
 f := kD
 args := [.agg (qU (vE 7110))]
 params := jX 7110 7118
 aU := [(Fq (vE 7110), true)]
 app := fun _ => true
 wW := [(Af, oK)]
 bp := [(.bl true, 0)]
 kind := fun _ => some 0
 out := fun _ => .dG oK (inE (vE 7110)) (.il 0) 0
 X := (⟨[], [(kD, 3, AX.cW)]⟩ : gW).x
 fuel := 300; np := 80
def lH : ak := AG ni 3 21 2101 (jX 5 20) [(0, .bR dp (.v 7120))] 3 4 Kj aK (.uf 101 (pk [.v 7120])) (aB (.v 7120)) [(u9 (.v 7120), true), (.o2 .le (aB (.v 7120)) (.il 2147483647), true)] [7120] (⟨[(kD, l8.aS)], []⟩ : gW).x 0
def vt : cA where
 f := ni
 args := [.bR dp (.v 7121)]
 params := [7121]
 aU := [(u9 (.v 7121), true), (.o2 .le (aB (.v 7121)) (.il 2147483647), true)]
 app := fun _ => true
 bp := [(.bl true, 0)]
 kind := fun _ => some 0
 out := fun _ => .bR aK (.uf 101 (pk [.v 7121]))
 X := (⟨[], [(ni, 3, lH.cW)]⟩ : gW).x
 fuel := 300; np := 80
def x0 : E := .v 7130
def i0 : E := .v 7131
def vj : ak where
 f := gZ; key := 9; N := 84; r := 2102; base := 107000
 js := jX 62 83
 hd := fun m => ⟨[(3, .dG oK x0 i0 0), (7, .ptr 1 (.c 0)), (8, .int .i64 (.v 2102))],
  (match m with | 0 => [] | _ => [(8, .row BY 2 (.v 2102) (b8 gQ (cE x0 i0 4) 0) [])]) ++
  [(1, .cells qo (FZ (cE x0 i0) (match m with | 0 => .bO | _ => .sl 8 2 (.il 0) (.v 2102))))], 9,
  Wi 2102 m (aB (cE x0 i0 4)) ++ [(.o2 .le (aB (cE x0 i0 4)) (.il 2147483647), true)]⟩
 aU := fun _ => [(.o2 .le (aB (cE x0 i0 4)) (.il 2147483647), true)]
 app := fun _ => true
 mS := fun m => Nat.beq m 0
 dI := fun sl => match nth sl 7 with | some (.ptr n _) => .get n fun o => (match o with | .cells _ cs => (match nth cs 4 with | some .bO => .ret 0 | some (.sl ..) => .ret 1 | _ => .fail) | _ => .fail) | _ => .fail
 ll := fun m => Nat.beq m 1
 mf := fun _ => []
 hx := fun _ => ⟨[(3, .dG oK x0 i0 0), (7, .ptr 1 (.c 0)), (8, .top)], [(1, .cells qo (qU (cE x0 i0)))], 9, []⟩
 sP := fun _ _ => .ret 0
 nS := fun _ => .exit 0
 bp := [(.bl true, 0)]
 fixed := [1]
 lt := .o2 .lt (.v 2102) (aB (cE x0 i0 4))
 X := di.none
 fuel := 300; np := 80
 params := [7130, 7131]
 wW := [(BY, gQ)]
def Oj (x i : Nat) : SV := .ei Qc (.dG oK (.v x) (.v i) 0)
def iY : cA where
 f := gZ
 args := [Oj 7135 7136]
 params := [7135, 7136]
 aU := [(Fq (cE (.v 7135) (.v 7136)), true)]
 app := fun _ => true
 bp := [(.bl true, 0)]
 kind := fun _ => some 0
 out := fun _ => .agg (qU (cE (.v 7135) (.v 7136)))
 X := (⟨[], [(gZ, 9, vj.cW)]⟩ : gW).x
 fuel := 300; np := 80
def Nu : List UInt8 := [111, 98, 106, 101, 99, 116, 32, 104, 97, 115, 32, 110, 111, 32, 109, 101, 116, 97, 58, 32, 46, 46]
def sg : cA where
 f := uB
 args := [Oj 7140 7141]
 params := [7140, 7141]
 aU := [(Fq (cE (.v 7140) (.v 7141)), true)]
 app := fun args => match args with | [.ei t (.dG ..)] => Nat.beq t Qc | _ => false
 bp := [(cE (.v 7140) (.v 7141) 6, 1), (.bl true, 0)]
 kind := fun r => match r with | .fm [_, .dN] => some 0 | .fm [_, .ei ..] => some 1 | _ => none
 out := fun n => match n with | 0 => .fm [.str (te (cE (.v 7140) (.v 7141))), .dN] | _ => .fm [.str (.sl []), .ei FQ (.str (.sl Nu))]
 X := di.none
 fuel := 300; np := 80
def qC : cA where
 f := tM
 args := [.agg (qU (vE 7150))]
 params := jX 7150 7158
 aU := [(Fq (vE 7150), true)]
 app := fun _ => true
 bp := [(.v 7156, 1), (.bl true, 0)]
 kind := fun r => match r with | .fm [_, .bool (.bl true)] => some 0 | .fm [_, .bool (.bl false)] => some 1 | _ => none
 out := fun n => match n with | 0 => .fm [.str (te (vE 7150)), .bool (.bl true)] | _ => .fm [.str (.sl []), .bool (.bl false)]
 X := (⟨[(kD, l8.aS), (uB, sg.aS)], []⟩ : gW).x
 fuel := 300; np := 80
def fj : cA where
 f := ic
 args := [.agg (qU (vE 7160))]
 params := jX 7160 7168
 aU := [(Fq (vE 7160), true)]
 app := fun _ => true
 bp := [(.v 7166, 1), (.bl true, 0)]
 kind := fun r => match r with | .fm [_, .bool (.bl true)] => some 0 | .fm [_, .bool (.bl false)] => some 1 | _ => none
 out := fun n => match n with | 0 => .fm [.str (te (vE 7160)), .bool (.bl true)] | _ => .fm [.str (.sl []), .bool (.bl false)]
 X := di.none
 fuel := 300; np := 80
def Qr : E := pk [.v 7170, .v 7171]
def pE : ak where
 f := ik; key := 2; N := 32; r := 2103; base := 108000
 js := [6, 7, 8, 9] ++ jX 13 30
 hd := fun _ => ⟨[(1, .str (.v 7171)), (4, .int .i64 (.il 0)), (5, .bool (.bl false)), (10, .bR dp (.v 7170)), (11, .int .i64 (aB (.v 7170))), (12, .int .i64 (.v 2103))], [], 9,
  (.o2 .le (.il 0) (.v 2103), true) :: (.o2 .le (.v 2103) (.uf 104 Qr), true) :: [(u9 (.v 7170), true), (.o2 .le (aB (.v 7170)) (.il 1000000), true)]⟩
 aU := fun _ => [(u9 (.v 7170), true), (.o2 .le (aB (.v 7170)) (.il 1000000), true)]
 app := fun _ => true
 mS := fun m => Nat.beq m 0
 dI := fun _ => .ret 0
 ll := fun m => Nat.beq m 0
 mf := fun _ => []
 hx := fun n => match n with
  | 1 => ⟨[(1, .top), (4, .int .i64 (.uf 104 Qr)), (5, .bool (.uf 105 Qr)), (10, .top), (11, .top), (12, .top)], [], 9, []⟩
  | _ => ⟨[(1, .str (.v 7171)), (4, .int .i64 (.il 0)), (5, .bool (.bl false)), (10, .bR dp (.v 7170)), (11, .int .i64 (aB (.v 7170))), (12, .top)], [], 9, []⟩
 sP := fun ex _ => match ex with | .ret => .ret 1 | _ => .ret 0
 nS := fun n => match n with | 1 => .ret | _ => .exit 0
 bp := [(.o2 .lt (.uf 104 Qr) (aB (.v 7170)), 1), (.bl true, 0)]
 fixed := []
 lt := .o2 .lt (.v 2103) (.uf 104 Qr)
 X := (⟨[(ic, fj.aS)], []⟩ : gW).x
 fuel := 300; np := 80
 params := [7170, 7171]
def lO : cA where
 f := ik
 args := [.bR dp (.v 7173), .str (.v 7174)]
 params := [7173, 7174]
 aU := [(u9 (.v 7173), true), (.o2 .le (aB (.v 7173)) (.il 1000000), true)]
 app := fun _ => true
 bp := [(.bl true, 0)]
 kind := fun _ => some 0
 out := fun _ => .fm [.int .i64 (.uf 104 (pk [.v 7173, .v 7174])), .bool (.uf 105 (pk [.v 7173, .v 7174]))]
 X := (⟨[], [(ik, 2, pE.cW)]⟩ : gW).x
 fuel := 300; np := 80
def gI : cA where
 f := mC
 args := [.bR dp (.v 7180), .agg (qU (vE 7181))]
 params := jX 7180 7189
 aU := [(u9 (.v 7180), true), (Fq (vE 7181), true), (.v 7187, false), (.o2 .le (aB (.v 7180)) (.il 1000000), true)]
 app := fun _ => true
 wW := [(qo, dp)]
 bp := [(.bl true, 0)]
 kind := fun _ => some 0
 out := fun _ => .bR dp (.uf 107 (pk (.v 7180 :: pk8 (vE 7181))))
 X := (⟨[(ic, fj.aS), (ik, lO.aS)], []⟩ : gW).x
 fuel := 300; np := 80
def fU : cA where
 f := nA
 args := [.bR dp (.v 7190), .str (.v 7191)]
 params := [7190, 7191]
 aU := [(u9 (.v 7190), true), (.o2 .le (aB (.v 7190)) (.il 1000000), true)]
 app := fun _ => true
 wW := [(qo, dp)]
 bp := [(.bl true, 0)]
 kind := fun _ => some 0
 out := fun _ => .bR dp (.uf 108 (pk [.v 7190, .v 7191]))
 X := (⟨[(ik, lO.aS)], []⟩ : gW).x
 fuel := 300; np := 80
def je : ak := AG la 3 25 2104 ([5, 6, 7] ++ jX 11 24) [(8, .bR dp (.v 7195)), (9, .int .i64 (aB (.v 7195)))] 3 10 r7 gH (.uf 103 (pk [.v 7195])) (aB (.v 7195)) [(u9 (.v 7195), true), (.o2 .le (aB (.v 7195)) (.il 1000000), true)] [7195] (⟨[(ic, fj.aS)], []⟩ : gW).x 0
def rT : cA where
 f := la
 args := [.bR dp (.v 7196)]
 params := [7196]
 aU := [(u9 (.v 7196), true), (.o2 .le (aB (.v 7196)) (.il 1000000), true)]
 app := fun _ => true
 bp := [(.bl true, 0)]
 kind := fun _ => some 0
 out := fun _ => .bR gH (.uf 103 (pk [.v 7196]))
 X := (⟨[], [(la, 3, je.cW)]⟩ : gW).x
 fuel := 300; np := 80
def GV : cA where
 f := NI
 args := [.bR gH (.v 7198)]
 params := [7198]
 aU := [(.o2 .le (aB (.v 7198)) (.il 1000000), true)]
 app := fun _ => true
 wW := [(r7, gH)]
 bp := [(.bl true, 0)]
 kind := fun _ => some 0
 out := fun _ => .bR gH (.uf 106 (pk [.v 7198]))
 X := (⟨[(Dm, y8 106)], []⟩ : gW).x
 fuel := 300; np := 80
end Go.Proofs.YtdlppkhmmclipaaGreat.sxObj
namespace Go.Sx
open Go.RowKit
set_option linter.unusedVariables false
set_option linter.unusedSimpArgs false
def ar (d : Dv) (k : Nat) : Dv := cc (row d 0) k
theorem afH {a b : Dv} : ar (O2.den .b9 a b) 0 = a := id rfl
theorem agW {a b c : Dv} : ar (O2.den .b9 a (O2.den .b9 b c)) 1 = b := id rfl
theorem agq {a b c d : Dv} : ar (O2.den .b9 a (O2.den .b9 b (O2.den .b9 c d))) 2 = c := id rfl
theorem afA {a b c d e : Dv} : ar (O2.den .b9 a (O2.den .b9 b (O2.den .b9 c (O2.den .b9 d e)))) 3 = d := id rfl
theorem afX {a b c d e f : Dv} : ar (O2.den .b9 a (O2.den .b9 b (O2.den .b9 c (O2.den .b9 d (O2.den .b9 e f))))) 4 = e := id rfl
theorem agN {a b c d e f g : Dv} : ar (O2.den .b9 a (O2.den .b9 b (O2.den .b9 c (O2.den .b9 d (O2.den .b9 e (O2.den .b9 f g)))))) 5 = f := id rfl
theorem afE {a b c d e f g h : Dv} : ar (O2.den .b9 a (O2.den .b9 b (O2.den .b9 c (O2.den .b9 d (O2.den .b9 e (O2.den .b9 f (O2.den .b9 g h))))))) 6 = g := id rfl
theorem afK {a b c d e f g h i : Dv} : ar (O2.den .b9 a (O2.den .b9 b (O2.den .b9 c (O2.den .b9 d (O2.den .b9 e (O2.den .b9 f (O2.den .b9 g (O2.den .b9 h i)))))))) 7 = h := id rfl
theorem af4 {a b c d e f g h i j : Dv} : ar (O2.den .b9 a (O2.den .b9 b (O2.den .b9 c (O2.den .b9 d (O2.den .b9 e (O2.den .b9 f (O2.den .b9 g (O2.den .b9 h (O2.den .b9 i j))))))))) 8 = i := id rfl
theorem agp {env : Env} {q : KQ} {a b : E} : (E.o2 (.mf q) a b).den env = .i (aQ q (b.den env) (a.den env).T) := id rfl
theorem aae {env : Env} {q : KQ} {a b : E} : ((E.o2 (.mf q) a b).den env).I = aQ q (b.den env) (a.den env).T := id rfl
theorem ZR {env : Env} {a b : E} : (E.o2 .mul a b).den env = .i ((a.den env).I * (b.den env).I) := id rfl
theorem abi {env : Env} {a b : E} : (E.o2 .sub a b).den env = .i ((a.den env).I - (b.den env).I) := id rfl
theorem af9 {env : Env} {a b : E} : (E.o2 .mn a b).den env = .i (if (b.den env).I < (a.den env).I then (b.den env).I else (a.den env).I) := id rfl
theorem abU {env : Env} {a b : E} : (E.o2 .cat a b).den env = .s ((a.den env).S ++ (b.den env).S) := id rfl
theorem abR {env : Env} {q : KQ} {a b : E} : ((E.o2 (.mp q) a b).den env).T = jM q (a.den env).T (b.den env).row := id rfl
theorem Z8 {env : Env} {q : KQ} {a b : E} : ((E.o2 (.md q) a b).den env).T = nR q (a.den env).T (b.den env) := id rfl
theorem Pa {env : Env} {a b : E} : ((E.o2 .fA a b).den env).T = (a.den env).T.set ((b.den env).row.headD (.i 0)).I.toNat (b.den env).row.tail := id rfl
theorem T6 {env : Env} {a b : E} : (E.o2 .fA a b).den env = .t ((a.den env).T.set ((b.den env).row.headD (.i 0)).I.toNat (b.den env).row.tail) := id rfl
theorem Yx {env : Env} {a b : E} : (E.o2 .fS a b).den env = .t ((a.den env).T ++ (b.den env).T) := id rfl
theorem V3 {env : Env} {a b : E} : (E.o2 .nY a b).den env = .t ((a.den env).T.drop (b.den env).I.toNat) := id rfl
theorem QI {a b : Dv} : (O2.den .b9 a b).row = a :: b.row := id rfl
theorem abH {z : Int} : (Dv.i z).row = [] := id rfl
theorem Vg {env : Env} {a b : E} : ((E.o2 .slt a b).den env).B = dq (a.den env).S (b.den env).S := id rfl
theorem afY {env : Env} {a b : E} : (Ob.p a b).den env ↔ (a.den env).T.Perm (b.den env).T := Iff.rfl
theorem afw {a : Dv} {l : List Dv} : cc (a :: l) 0 = a := id rfl
theorem agv {a b : Dv} {l : List Dv} : cc (a :: b :: l) 1 = b := id rfl
theorem agR {a b c : Dv} {l : List Dv} : cc (a :: b :: c :: l) 2 = c := id rfl
theorem aed {a b : Dv} : row (O2.den .b9 a b) 0 = a :: b.row := id rfl
theorem ri {r : Nat} : ((r : Int) + 1).toNat = r + 1 := by omega
theorem KH {d : Dv} {n : Nat} (h : n < d.T.length) : d.T[n]? = some (row d n) := by
 unfold row; rw [List.getElem?_eq_getElem h]; rfl
theorem iw {l : List (List Dv)} {f : List Dv -> List Dv} {n : Nat} (h : n < l.length) : row (.t (l.map f)) n = f (row (.t l) n) := by
 unfold row; simp only [Dv.T, List.getElem?_map, List.getElem?_eq_getElem h, Option.map_some, Option.getD_some]
theorem eb {d : Dv} {n : Nat} (h : n < d.T.length) : row d n ∈ d.T := List.mem_of_getElem? (KH h)
theorem mem_row {d : Dv} {r : List Dv} (h : r ∈ d.T) : ∃ n, n < d.T.length /\ row d n = r := by
 obtain ⟨n, hn, rfl⟩ := List.mem_iff_getElem.1 h; exact ⟨n, hn, by unfold row; rw [List.getElem?_eq_getElem hn]; rfl⟩
noncomputable def dec (p : Prop) : Bool := @decide p (Classical.propDecidable p)
theorem al {p : Prop} : dec p = true ↔ p := by unfold dec; simp
theorem eH {α : Type} {l : List α} {n : Nat} (h : l.length <= n) : l.take n = l := List.take_of_length_le h
theorem toList_data (a : ByteArray) : a.toList = a.data.toList := by
 have : a = ByteArray.mk a.data.toList.toArray := by cases a; simp
 rw [this, ByteArray.toList_mk]
theorem SS : (((((((∀ {env : Env} {x : E} {b : Bool} {fs : aa}, aa.ay env ((x, b) :: fs) ↔ (E.den env x).B = b /\ aa.ay env fs) /\
 ((∀ {env : Env}, aa.ay env [] ↔ True) /\
 (∀ {env : Env} {x : Ob} {l : List Ob}, cO env (x :: l) ↔ Ob.den env x /\ cO env l))) /\
 ((∀ {env : Env}, cO env [] ↔ True) /\
 ((∀ {env : Env} {x : E}, Ob.den env (Ob.e x) ↔ (E.den env x).B = true) /\
 (∀ {env : Env} {a b : E}, Ob.den env (Ob.t a b) ↔ (E.den env a).T = (E.den env b).T)))) /\
 (((∀ {env : Env} {a b : E}, Ob.den env (Ob.p a b) ↔ (E.den env a).T.Perm (E.den env b).T) /\
 ((∀ {env : Env} {a b : E}, (E.den env (E.o2 O2.lt a b)).B = decide ((E.den env a).I < (E.den env b).I)) /\
 (∀ {env : Env} {a b : E}, (E.den env (E.o2 O2.le a b)).B = decide ((E.den env a).I <= (E.den env b).I)))) /\
 ((∀ {env : Env} {a b : E}, (E.den env (E.o2 O2.aN a b)).B = decide ((E.den env a).I = (E.den env b).I)) /\
 ((∀ {env : Env} {a b : E}, (E.den env (E.o2 O2.beq a b)).B = ((E.den env a).B == (E.den env b).B)) /\
 (∀ {env : Env} {a b : E}, (E.den env (E.o2 O2.seq a b)).B = ((E.den env a).S.toList == (E.den env b).S.toList)))))) /\
 ((((∀ {env : Env} {a b : E}, (E.den env (E.o2 O2.slt a b)).B = dq (E.den env a).S (E.den env b).S) /\
 ((∀ {env : Env} {a b : E}, (E.den env (E.o2 O2.and a b)).B = ((E.den env a).B && (E.den env b).B)) /\
 (∀ {env : Env} {a b : E}, (E.den env (E.o2 O2.or a b)).B = ((E.den env a).B || (E.den env b).B)))) /\
 ((∀ {env : Env} {a : E}, (E.den env (E.o1 O1.not a)).B = !(E.den env a).B) /\
 ((∀ {env : Env} {b : Bool}, (E.den env (E.bl b)).B = b) /\
 (∀ {env : Env} {z : Int}, (E.den env (E.il z)).I = z)))) /\
 (((∀ {env : Env} {a b : E}, (E.den env (E.o2 O2.sub a b)).I = (E.den env a).I - (E.den env b).I) /\
 ((∀ {env : Env} {a b : E}, (E.den env (E.o2 O2.add a b)).I = (E.den env a).I + (E.den env b).I) /\
 (∀ {env : Env} {a b : E}, (E.den env (E.o2 O2.mul a b)).I = (E.den env a).I * (E.den env b).I))) /\
 ((∀ {env : Env} {a : E}, (E.den env (E.o1 O1.ab a)).I = (((E.den env a).T.length : Nat) : Int)) /\
 ((∀ {env : Env} {a : E}, (E.den env (E.o1 O1.size a)).I = (((E.den env a).S.size : Nat) : Int)) /\
 (∀ {env : Env} {a b : E}, (E.den env (E.o2 O2.mx a b)).I = if (E.den env b).I > (E.den env a).I then (E.den env b).I else (E.den env a).I)))))) /\
 (((((∀ {env : Env} {a b : E}, (E.den env (E.o2 O2.mn a b)).I = if (E.den env b).I < (E.den env a).I then (E.den env b).I else (E.den env a).I) /\
 ((∀ {env : Env} {q : KQ} {a b : E}, (E.den env (E.o2 (O2.mf q) a b)).I = aQ q (E.den env b) (E.den env a).T) /\
 (∀ {env : Env} {j : Nat} {a b : E}, E.den env (E.o2 (O2.cell j) a b) = cc (row (E.den env a) (E.den env b).I.toNat) j))) /\
 ((∀ {env : Env} {q : KQ} {a b : E}, E.den env (E.o2 (O2.mf q) a b) = Dv.i (aQ q (E.den env b) (E.den env a).T)) /\
 ((∀ {env : Env} {c : Nat} {a : E}, E.den env (E.uf c a) = env.uf c (E.den env a)) /\
 (∀ {env : Env} {a b : E}, E.den env (E.o2 O2.b9 a b) = O2.b9.den (E.den env a) (E.den env b))))) /\
 (((∀ {env : Env} {n : Nat}, E.den env (E.v n) = env.v n) /\
 ((∀ {env : Env} {z : Int}, E.den env (E.il z) = Dv.i z) /\
 (∀ {env : Env} {z : Bool}, E.den env (E.bl z) = Dv.b z))) /\
 ((∀ {env : Env} {s : List UInt8}, E.den env (E.sl s) = Dv.s { data := s.toArray }) /\
 ((∀ {env : Env} {a b : E}, E.den env (E.o2 O2.add a b) = Dv.i ((E.den env a).I + (E.den env b).I)) /\
 (∀ {env : Env} {a b : E}, E.den env (E.o2 O2.sub a b) = Dv.i ((E.den env a).I - (E.den env b).I)))))) /\
 ((((∀ {env : Env} {a b : E}, E.den env (E.o2 O2.mul a b) = Dv.i ((E.den env a).I * (E.den env b).I)) /\
 ((∀ {env : Env} {a b : E}, E.den env (E.o2 O2.mn a b) = Dv.i (if (E.den env b).I < (E.den env a).I then (E.den env b).I else (E.den env a).I)) /\
 (∀ {env : Env} {a : E}, E.den env (E.o1 O1.ab a) = Dv.i (((E.den env a).T.length : Nat) : Int)))) /\
 ((∀ {env : Env} {a b : E}, E.den env (E.o2 O2.fA a b) = Dv.t ((E.den env a).T.set ((E.den env b).row.headD (Dv.i 0)).I.toNat (E.den env b).row.tail)) /\
 ((∀ {env : Env} {a b : E}, E.den env (E.o2 O2.fS a b) = Dv.t ((E.den env a).T ++ (E.den env b).T)) /\
 (∀ {env : Env} {a b : E}, E.den env (E.o2 O2.cJ a b) = Dv.t (List.take (E.den env b).I.toNat (E.den env a).T))))) /\
 (((∀ {env : Env} {a b : E}, E.den env (E.o2 O2.nY a b) = Dv.t (List.drop (E.den env b).I.toNat (E.den env a).T)) /\
 ((∀ {env : Env} {a b : E}, E.den env (E.o2 O2.cat a b) = Dv.s ((E.den env a).S ++ (E.den env b).S)) /\
 (∀ {env : Env} {s : List UInt8}, (E.den env (E.sl s)).S = { data := s.toArray }))) /\
 (((∀ {env : Env} {q : KQ} {a b : E}, (E.den env (E.o2 (O2.md q) a b)).T = nR q (E.den env a).T (E.den env b)) /\
 (∀ {env : Env} {q : KQ} {a b : E}, (E.den env (E.o2 (O2.mp q) a b)).T = jM q (E.den env a).T (E.den env b).row)) /\
 ((∀ {env : Env} {a b : E}, (E.den env (E.o2 O2.fA a b)).T = (E.den env a).T.set ((E.den env b).row.headD (Dv.i 0)).I.toNat (E.den env b).row.tail) /\
 (∀ {env : Env} {a b : E}, (E.den env (E.o2 O2.fS a b)).T = (E.den env a).T ++ (E.den env b).T))))))) /\
 ((((((∀ {env : Env} {a b : E}, (E.den env (E.o2 O2.cJ a b)).T = List.take (E.den env b).I.toNat (E.den env a).T) /\
 ((∀ {env : Env} {a b : E}, (E.den env (E.o2 O2.nY a b)).T = List.drop (E.den env b).I.toNat (E.den env a).T) /\
 (∀ {a b : Dv}, ar (O2.b9.den a b) 0 = a))) /\
 ((∀ {a b c : Dv}, ar (O2.b9.den a (O2.b9.den b c)) 1 = b) /\
 ((∀ {a b c d : Dv}, ar (O2.b9.den a (O2.b9.den b (O2.b9.den c d))) 2 = c) /\
 (∀ {a b c d e : Dv}, ar (O2.b9.den a (O2.b9.den b (O2.b9.den c (O2.b9.den d e)))) 3 = d)))) /\
 (((∀ {a b c d e f : Dv}, ar (O2.b9.den a (O2.b9.den b (O2.b9.den c (O2.b9.den d (O2.b9.den e f))))) 4 = e) /\
 ((∀ {a b c d e f g : Dv}, ar (O2.b9.den a (O2.b9.den b (O2.b9.den c (O2.b9.den d (O2.b9.den e (O2.b9.den f g)))))) 5 = f) /\
 (∀ {a b c d e f g h : Dv}, ar (O2.b9.den a (O2.b9.den b (O2.b9.den c (O2.b9.den d (O2.b9.den e (O2.b9.den f (O2.b9.den g h))))))) 6 = g))) /\
 ((∀ {a b c d e f g h i : Dv}, ar (O2.b9.den a (O2.b9.den b (O2.b9.den c (O2.b9.den d (O2.b9.den e (O2.b9.den f (O2.b9.den g (O2.b9.den h i)))))))) 7 = h) /\
 ((∀ {a b c d e f g h i j : Dv}, ar (O2.b9.den a (O2.b9.den b (O2.b9.den c (O2.b9.den d (O2.b9.den e (O2.b9.den f (O2.b9.den g (O2.b9.den h (O2.b9.den i j))))))))) 8 = i) /\
 (∀ {l : List (List Dv)}, (Dv.t l).T = l))))) /\
 ((((∀ {z : Int}, (Dv.i z).T = []) /\
 ((∀ {a b : Dv}, (O2.b9.den a b).T = [a :: b.T.head?.getD []]) /\
 (∀ (z : Int), (Dv.i z).I = z))) /\
 ((∀ (z : Bool), (Dv.b z).B = z) /\
 ((∀ (z : ByteArray), (Dv.s z).S = z) /\
 (∀ {a b : Dv}, (O2.b9.den a b).row = a :: b.row)))) /\
 (((∀ {z : Int}, (Dv.i z).row = []) /\
 ((∀ {a b : Dv}, row (O2.b9.den a b) 0 = a :: b.row) /\
 (∀ {r : Nat}, (((r : Int)) + 1).toNat = r + 1))) /\
 (((∀ (n : Nat), ((n : Int)).toNat = n) /\
 (Int.toNat 0 = 0)) /\
 ((∀ {p : Prop} [inst : Decidable p], (decide p = true) = p) /\
 (∀ {p : Prop} {x : Decidable p}, decide p = false ↔ ¬p)))))) /\
 (((((∀ {α : Type} [inst : BEq α] [LawfulBEq α] {a b : α}, (a == b) = true ↔ a = b) /\
 ((∀ {α : Type} [inst : BEq α] [LawfulBEq α] {a b : α}, (a == b) = false ↔ a ≠ b) /\
 (∀ {α : Type}, ([] : List α).head? = none))) /\
 ((∀ {α : Type} {a : α} {l : List α}, (a :: l).head? = some a) /\
 ((∀ {α : Type} {a : α}, (none : Option α).getD a = a) /\
 (∀ {α : Type} {a b : α}, (some a).getD b = a)))) /\
 (((∀ {α : Type} {a : α} {l : List α} {d : α}, (a :: l).headD d = a) /\
 ((∀ {α : Type} {a : α} {l : List α}, (a :: l).tail = l) /\
 (∀ {a : Dv} {l : List Dv}, cc (a :: l) 0 = a))) /\
 ((∀ {a b : Dv} {l : List Dv}, cc (a :: b :: l) 1 = b) /\
 ((∀ {a b c : Dv} {l : List Dv}, cc (a :: b :: c :: l) 2 = c) /\
 (∀ (p : Prop), (False /\ p) = False))))) /\
 ((((∀ (p : Prop), (p /\ False) = False) /\
 (((¬False) = True) /\
 ((¬True) = False))) /\
 ((∀ (p : Prop), (False -> p) = True) /\
 ((∀ (α : Prop), (∀ (a : α), True) = True) /\
 (∀ (p : Prop), (p /\ True) = p)))) /\
 (((∀ (p : Prop), (True /\ p) = p) /\
 (((true = false) = False) /\
 ((false = true) = False))) /\
 (((∀ (b : Bool), ((!b) = true) = (b = false)) /\
 (∀ (b : Bool), ((!b) = false) = (b = true))) /\
 (((!true) = false) /\
 ((!false) = true)))))))) :=
 ⟨⟨⟨⟨⟨⟨@bS, ⟨@AP, @Jx⟩⟩, ⟨@se, ⟨@af6, @afv⟩⟩⟩, ⟨⟨@afY, ⟨@Ea, @sJ⟩⟩, ⟨@Mi, ⟨@YH, @UQ⟩⟩⟩⟩, ⟨⟨⟨@Vg, ⟨@Yc, @abQ⟩⟩, ⟨@Xu, ⟨@aaY, @wY⟩⟩⟩, ⟨⟨@UE, ⟨@W0, @Uo⟩⟩, ⟨@Rc, ⟨@RH, @aap⟩⟩⟩⟩⟩, ⟨⟨⟨⟨@aep, ⟨@aae, @UO⟩⟩, ⟨@agp, ⟨@afD, @abV⟩⟩⟩, ⟨⟨@HC, ⟨@afV, @af7⟩⟩, ⟨@agE, ⟨@aa0, @abi⟩⟩⟩⟩, ⟨⟨⟨@ZR, ⟨@af9, @U2⟩⟩, ⟨@T6, ⟨@Yx, @VU⟩⟩⟩, ⟨⟨@V3, ⟨@abU, @acX⟩⟩, ⟨⟨@Z8, @abR⟩, ⟨@Pa, @XZ⟩⟩⟩⟩⟩⟩, ⟨⟨⟨⟨⟨@O9, ⟨@Oi, @afH⟩⟩, ⟨@agW, ⟨@agq, @afA⟩⟩⟩, ⟨⟨@afX, ⟨@agN, @afE⟩⟩, ⟨@afK, ⟨@af4, @Tx⟩⟩⟩⟩, ⟨⟨⟨@T_i, ⟨@aet, @I_i⟩⟩, ⟨@B_b, ⟨@S_s, @QI⟩⟩⟩, ⟨⟨@abH, ⟨@aed, @ri⟩⟩, ⟨⟨@Int.toNat_natCast, @Int.toNat_zero⟩, ⟨@decide_eq_true_eq, @decide_eq_false_iff_not⟩⟩⟩⟩⟩, ⟨⟨⟨⟨@beq_iff_eq, ⟨@beq_eq_false_iff_ne, @List.head?_nil⟩⟩, ⟨@List.head?_cons, ⟨@Option.getD_none, @Option.getD_some⟩⟩⟩, ⟨⟨@List.headD_cons, ⟨@List.tail_cons, @afw⟩⟩, ⟨@agv, ⟨@agR, @false_and⟩⟩⟩⟩, ⟨⟨⟨@and_false, ⟨@not_false_eq_true, @not_true_eq_false⟩⟩, ⟨@false_implies, ⟨@implies_true, @and_true⟩⟩⟩, ⟨⟨@true_and, ⟨@Bool.true_eq_false, @Bool.false_eq_true⟩⟩, ⟨⟨@Bool.not_eq_true', @Bool.not_eq_false'⟩, ⟨@Bool.not_true, @Bool.not_false⟩⟩⟩⟩⟩⟩⟩
end Go.Sx
namespace Go.Proofs.YtdlppkhmmclipaaGreat.sxObj
open Go.Sx Go.RowKit Go.Proofs.YtdlppkhmmclipaaGreat
set_option linter.unusedVariables false
set_option linter.unusedSimpArgs false
abbrev Row := List Dv
def ju (ns name : ByteArray) : ByteArray := if ns.size = 0 then name else ns ++ ⟨#[47]⟩ ++ name
def kO (r : Row) : ByteArray := ju (cc r 0).S (cc r 1).S
def bad (r : Row) : Bool := (cc r 6).B
def kS (r : Row) : ByteArray := if bad r = true then ⟨#[]⟩ else kO r
def kl (r : Row) : List UInt8 := (kS r).toList
def eight (r : Row) : Row := [cc r 0, cc r 1, cc r 2, cc r 3, cc r 4, cc r 5, cc r 6, cc r 7]
def nine (r : Row) : Row := [cc r 0, cc r 1, cc r 2, cc r 3, cc r 4, cc r 5, cc r 6, cc r 7, .i 0]
def lF (r : Row) : Row := [.t [nine r]]
def nv (r : Row) : Row := eight (row (cc r 0) 0)
def Pt (ns name lab : Dv) : Prop := ns.S.size <= 2147483647 /\ name.S.size <= 2147483647 /\ lab.T.length <= 2147483647
def jg (r : Row) : Prop := Pt (cc r 0) (cc r 1) (cc r 4)
def dH (l : List Row) : Prop := ∀ r ∈ l, jg r
def J2 (l : Dv) (k : ByteArray) (j : Nat) : Bool := !dq (kS (row l j)) k
def iI (l : Dv) (k : ByteArray) : Nat := stop (J2 l k) l.T.length
def hY (l : Dv) (k : ByteArray) : Bool := decide (iI l k < l.T.length) && ((kS (row l (iI l k))).toList == k.toList)
def ez (l : Dv) (k : ByteArray) (o : Row) : List Row := l.T.take (iI l k) ++ o :: l.T.drop (if hY l k = true then iI l k + 1 else iI l k)
def cM (l : Dv) (k : ByteArray) : List Row := if hY l k = true then l.T.take (iI l k) ++ l.T.drop (iI l k + 1) else l.T
def bP (r : Row) : Row := [.s (kS r)]
def n9 (l : List Row) : Prop := (l.Pairwise fun a b => kl a < kl b) /\ ∀ r ∈ l, bad r = false
def dn (lo hi : Int) : Nat -> Int
 | 0 => hi
 | n + 1 => if lo < dn lo hi n then (lo + dn lo hi n).tdiv 2 else dn lo hi n
def up (lo hi : Int) : Nat -> Int
 | 0 => lo
 | n + 1 => if up lo hi n < hi then (up lo hi n + hi).tdiv 2 + 1 else up lo hi n
theorem half {a b : Int} (h0 : 0 <= a) (h : a < b) : a <= (a + b).tdiv 2 /\ (a + b).tdiv 2 < b := by
 rw [Int.tdiv_eq_ediv_of_nonneg (by omega)]
 omega
theorem Mu {lo hi : Int} (h0 : 0 <= lo) (h : lo <= hi) : ∀ n : Nat, lo <= dn lo hi n /\ dn lo hi n <= hi /\ (lo < dn lo hi n -> dn lo hi n <= hi - n)
 | 0 => ⟨h, Int.le_refl _, fun _ => by show hi <= hi - ((0 : Nat) : Int); omega⟩
 | n + 1 => by
   obtain ⟨h1, h2, h3⟩ := Mu h0 h n; unfold dn; split
   ·rename_i hl; have := half h0 hl; have := h3 hl; refine ⟨by omega, by omega, fun _ => by omega⟩
   ·exact ⟨h1, h2, fun hh => by omega⟩
theorem LL {lo hi : Int} (h0 : 0 <= lo) (h : lo <= hi) : ∀ n : Nat, lo <= up lo hi n /\ up lo hi n <= hi /\ (up lo hi n < hi -> lo + n <= up lo hi n)
 | 0 => ⟨Int.le_refl _, h, fun _ => by show lo + ((0 : Nat) : Int) <= lo; omega⟩
 | n + 1 => by
   obtain ⟨h1, h2, h3⟩ := LL h0 h n; unfold up; split
   ·rename_i hl; have := half (by omega) hl
    have := h3 hl; refine ⟨by omega, by omega, fun _ => by omega⟩
   ·exact ⟨h1, h2, fun hh => by omega⟩
noncomputable def gN (Q : Nat -> Prop) (n : Nat) : Nat := stop (fun j => !dec (Q j)) n
def ee (Q : Nat -> Prop) (n : Nat) : Prop := ∀ j, j < n -> Q j
theorem uL {Q : Nat -> Prop} {n r : Nat} (hr : r <= gN Q n) (hl : r < n) (h : Q r) : r < gN Q n := r6 hr hl (by simp [al.2 h])
theorem ir {Q : Nat -> Prop} {n r : Nat} (hl : r < n) (h : ¬ Q r) : ¬ ee Q n := fun hg => h (hg r hl)
theorem qn {Q : Nat -> Prop} {n r : Nat} (hr : r <= gN Q n) (hl : ¬ r < n) : ee Q n := fun j hj => by
 have hj' : j < stop (fun j => !dec (Q j)) n := by unfold gN at hr; omega
 have h2 := bJ hj'; have h3 : dec (Q j) = true := by simpa using h2
 exact al.1 h3
theorem cD {p : Prop} : dec p = false ↔ ¬ p := by
 rw [<- Bool.not_eq_true, al]
theorem uy {p : Prop} : false = dec p ↔ ¬ p := eq_comm.trans cD
theorem uE {p : Prop} : true = dec p ↔ p := eq_comm.trans al
theorem G6 {q : Prop} {_ : Decidable q} {p : Prop} : decide q = dec p ↔ (q ↔ p) := by
 by_cases hp : p
 ·rw [al.2 hp]; simp [hp]
 ·rw [cD.2 hp]; simp [hp]
theorem aaS {b : Bool} {p : Prop} : (!b) = dec p ↔ (b = false ↔ p) := by
 by_cases hp : p
 ·rw [al.2 hp]; simp [hp]
 ·rw [cD.2 hp]; simp [hp]
def NN (l a b : Dv) (j : Nat) : Bool := ((cc (row l j) 0).S.toList == a.S.toList) && ((cc (row l j) 1).S.toList == b.S.toList)
def J1 (l a b : Dv) : Nat := stop (NN l a b) l.T.length
def qH (r : Row) : Prop := dH (cc r 2).T /\ (cc r 2).T.length <= 2147483647 /\ (cc r 3).T.length <= 2147483647
def q7 (l : Dv) (j : Nat) : Prop := (cc (row l j) 0).S.size <= 2147483647 /\ (cc (row l j) 1).S.size <= 2147483647
def GC (l : Dv) : Prop := ee (q7 l) l.T.length /\ l.T.length <= 2147483647
def JD (a b c d e f : Dv) : Prop := a.S.size <= 2147483647 /\ b.S.size <= 2147483647 /\ c.S.size <= 2147483647 /\ d.S.size <= 2147483647 /\ GC e /\ f.S.size <= 2147483647
def q5 (l : Dv) (j : Nat) : Prop := JD (cc (row l j) 0) (cc (row l j) 1) (cc (row l j) 2) (cc (row l j) 3) (cc (row l j) 4) (cc (row l j) 5)
def tk (l : Dv) : Prop := ee (q5 l) l.T.length /\ l.T.length <= 2147483647
def q35 (l : Dv) (j : Nat) : Prop := JD (cc (row l j) 1) (cc (row l j) 2) (cc (row l j) 3) (cc (row l j) 4) (cc (row l j) 5) (cc (row l j) 6) /\ tk (cc (row l j) 9)
def Xk (l : Dv) : Prop := ee (q35 l) l.T.length /\ l.T.length <= 2147483647
def qd (l k : Dv) (j : Nat) : Prop := ¬ (cc (row l j) 0).S.toList = k.S.toList
def qp (l : Dv) (j : Nat) : Prop := (cc (row l j) 0).S.size <= 40 /\ (cc (row l j) 1).S.size <= 40 /\ ee (qd (.t (l.T.take j)) (cc (row l j) 0)) (l.T.take j).length
def vd (l : Dv) : Prop := ee (qp l) l.T.length /\ l.T.length <= 6
def qs (s : Dv) (j : Nat) : Prop := ¬ (((s.S.data[j]?.getD 0).toNat : Nat) : Int) = 47
def Xi (s : Dv) : Prop := ee (qs s) s.S.size
def small (a b c d e f h : Dv) : Prop := Xi a /\ Xi b /\ a.S.size <= 20 /\ b.S.size <= 20 /\ c.S.size <= 20 /\ d.S.size <= 20 /\ f.S.size <= 40 /\ e.T.length <= 4 /\ vd e /\ h.B = false /\ ¬ b.S.toList = []
def YZ (l : Dv) (j : Nat) : Prop := small (cc (row l j) 0) (cc (row l j) 1) (cc (row l j) 2) (cc (row l j) 3) (cc (row l j) 4) (cc (row l j) 5) (cc (row l j) 7)
def vX (l : Dv) : Prop := ee (YZ l) l.T.length /\ l.T.length <= 20
def qex (l : Dv) (j : Nat) : Prop := 1 <= (cc (row l j) 0).I /\ (cc (row l j) 0).I <= 7 /\ small (cc (row l j) 1) (cc (row l j) 2) (cc (row l j) 3) (cc (row l j) 4) (cc (row l j) 5) (cc (row l j) 6) (cc (row l j) 8) /\ vX (cc (row l j) 9) /\ 0 <= (cc (row l j) 10).I /\ (cc (row l j) 10).I <= 1099511627776
def Yg (l : Dv) : Prop := ee (qex l) l.T.length /\ l.T.length <= 80
def qfi (l : Dv) (j : Nat) : Prop := (cc (row l j) 9).T.length <= 20 /\ 0 <= (cc (row l j) 10).I /\ (cc (row l j) 10).I <= 1099511627776
def Xt (l : Dv) : Prop := ee (qfi l) l.T.length /\ l.T.length <= 400
def atV (m : Dv) (k : ByteArray) : Int := if 0 <= aQ .s (.s k) m.T then (cc (row m (aQ .s (.s k) m.T).toNat) 1).I else 0
def TR (m : Dv) (now ttl : Int) (k : ByteArray) : Prop := 0 < ttl /\ ttl < now - atV m k
def aeB (only : Dv) (all : Bool) (k : ByteArray) : Prop := all = true \/ k.toList = only.S.toList
def P4 (l m : Dv) (now ttl : Int) (only : Dv) (all : Bool) (j : Nat) : Prop := aeB only all (kS (row l j)) /\ ¬ TR m now ttl (kS (row l j))
noncomputable def Zo (l m : Dv) (now ttl : Int) (only : Dv) (all : Bool) (n : Nat) : List Nat := (List.range n).filter fun j => dec (P4 l m now ttl only all j)
noncomputable def Ah (l m : Dv) (now ttl : Int) (only : Dv) (all : Bool) : List Row := (Zo l m now ttl only all l.T.length).map (row l)
noncomputable def Ik (l m : Dv) (now ttl : Int) (only : Dv) (all : Bool) : Nat -> List Row
 | 0 => l.T
 | n + 1 => if dec (aeB only all (kS (row l n)) /\ TR m now ttl (kS (row l n))) = true then cM (.t (Ik l m now ttl only all n)) (kS (row l n)) else Ik l m now ttl only all n
def Hi (m : Dv) : Prop := ∀ r ∈ m.T, 0 <= (cc r 1).I /\ (cc r 1).I <= 1125899906842624
def zP (l : Dv) : Nat -> List Row
 | 0 => []
 | n + 1 => ez (.t (zP l n)) (ju (cc (row l n) 0).S (cc (row l n) 1).S) (eight (row l n))
def qb (l : Dv) (j : Nat) : Prop := (cc (row l j) 6).B = false
def atT (ks m now : Dv) : Nat -> List Row
 | 0 => m.T
 | n + 1 => jM .s (atT ks m now n) [cc (row ks n) 0, now]
structure Sp where
 now : Int
 S : List Row
 M : List Row
def dD (p : Row) : Row := [cc p 1, cc p 2, cc p 3, cc p 4, cc p 5, cc p 6, cc p 7, cc p 8]
def bd (p : Row) : ByteArray := ju (cc p 1).S (cc p 2).S
def aY (err : Int) (ok : Bool) (bj keys : List Row) : Row := [.i err, .b ok, .t bj, .t keys, .s ⟨[].toArray⟩, .t []]
noncomputable def MI (ttl : Int) (p : Row) (s : Sp) : Sp × Row :=
 if ((cc p 0).I = 1 \/ (cc p 0).I = 2 \/ (cc p 0).I = 4) /\ (cc p 7).B = true then (s, aY 1 false [] [])
 else if (cc p 0).I = 1 then (⟨s.now, ez (.t s.S) (bd p) (dD p), jM .s s.M [.s (bd p), .i s.now]⟩, aY 0 false [] [])
 else if (cc p 0).I = 2 then (⟨s.now, cM (.t s.S) (bd p), s.M⟩, aY 0 false [] [])
 else if (cc p 0).I = 3 then
  (if dec (ee (qb (cc p 9)) (cc p 9).T.length) = true then (⟨s.now, zP (cc p 9) (cc p 9).T.length, atT (.t ((zP (cc p 9) (cc p 9).T.length).map bP)) (.t s.M) (.i s.now) (zP (cc p 9) (cc p 9).T.length).length⟩, aY 0 false [] [])
  else (s, aY 1 false [] []))
 else if (cc p 0).I = 4 then (⟨s.now, Ik (.t s.S) (.t s.M) s.now ttl (.s (bd p)) false s.S.length, s.M⟩, aY 0 (decide (0 < (Ah (.t s.S) (.t s.M) s.now ttl (.s (bd p)) false).length)) (Ah (.t s.S) (.t s.M) s.now ttl (.s (bd p)) false) [])
 else if (cc p 0).I = 5 then (⟨s.now, Ik (.t s.S) (.t s.M) s.now ttl (.s ⟨[].toArray⟩) true s.S.length, s.M⟩, aY 0 false (Ah (.t s.S) (.t s.M) s.now ttl (.s ⟨[].toArray⟩) true) [])
 else if (cc p 0).I = 6 then (s, aY 0 false [] (s.S.map bP))
 else if (cc p 0).I = 7 then (⟨s.now + (cc p 10).I, s.S, s.M⟩, aY 0 false [] [])
 else (s, aY 0 false [] [])
noncomputable def Gk (ops : Dv) (ttl : Int) : Nat -> Sp
 | 0 => ⟨0, [], []⟩
 | n + 1 => (MI ttl (row ops n) (Gk ops ttl n)).1
noncomputable def Yt (ops : Dv) (ttl : Int) : List Row := (List.range ops.T.length).map fun n => (MI ttl (row ops n) (Gk ops ttl n)).2
noncomputable def J9 (c : Nat) (d : Dv) : Dv :=
 match c with
 | 100 => .s (ju (ar d 0).S (ar d 1).S)
 | 101 => .t ((ar d 0).T.map lF)
 | 102 => .t ((ar d 0).T.map nv)
 | 103 => .t ((ar d 0).T.map bP)
 | 104 => .i (iI (ar d 0) (ar d 1).S : Nat)
 | 105 => .b (hY (ar d 0) (ar d 1).S)
 | 106 => .t (eM (ar d 0).T)
 | 107 => .t (ez (ar d 0) (ju (ar d 1).S (ar d 2).S) [ar d 1, ar d 2, ar d 3, ar d 4, ar d 5, ar d 6, ar d 7, ar d 8])
 | 108 => .t (cM (ar d 0) (ar d 1).S)
 | 110 => .b (dec (Pt (ar d 0) (ar d 1) (ar d 2)))
 | 111 => .b (dec (dH (ar d 0).T))
 | 112 => .b (dec (n9 (ar d 0).T))
 | 113 => .b (dec (n9 ((ar d 0).T.map nv) /\ dH ((ar d 0).T.map nv)))
 | 121 => .i (dn (ar d 0).I (ar d 1).I (ar d 2).I.toNat)
 | 122 => .i (up (ar d 0).I (ar d 1).I (ar d 2).I.toNat)
 | 123 => .i (20 * 2 ^ (ar d 0).I.toNat)
 | 130 => .i (J1 (ar d 0) (ar d 1) (ar d 2) : Nat)
 | 131 => .b (decide (J1 (ar d 0) (ar d 1) (ar d 2) < (ar d 0).T.length))
 | 132 => .b (dec (∀ r ∈ (ar d 0).T, qH r))
 | 133 => .b (dec (¬ ee (q7 (ar d 0)) (ar d 0).T.length))
 | 134 => .i (gN (q7 (ar d 0)) (ar d 0).T.length : Nat)
 | 135 => .b (dec (GC (ar d 0)))
 | 136 => .b (dec (JD (ar d 0) (ar d 1) (ar d 2) (ar d 3) (ar d 4) (ar d 5)))
 | 137 => .b (dec (¬ ee (q5 (ar d 0)) (ar d 0).T.length))
 | 138 => .i (gN (q5 (ar d 0)) (ar d 0).T.length : Nat)
 | 139 => .b (dec (tk (ar d 0)))
 | 140 => .b (dec (¬ ee (q35 (ar d 0)) (ar d 0).T.length))
 | 141 => .i (gN (q35 (ar d 0)) (ar d 0).T.length : Nat)
 | 142 => .b (dec (Xk (ar d 0)))
 | 143 => .b (dec (¬ ee (qd (ar d 0) (ar d 1)) (ar d 0).T.length))
 | 144 => .i (gN (qd (ar d 0) (ar d 1)) (ar d 0).T.length : Nat)
 | 145 => .b (dec (¬ ee (qp (ar d 0)) (ar d 0).T.length))
 | 146 => .i (gN (qp (ar d 0)) (ar d 0).T.length : Nat)
 | 147 => .b (dec (vd (ar d 0)))
 | 148 => .b (dec (¬ ee (qs (ar d 0)) (ar d 0).S.size))
 | 149 => .i (gN (qs (ar d 0)) (ar d 0).S.size : Nat)
 | 150 => .b (dec (small (ar d 0) (ar d 1) (ar d 2) (ar d 3) (ar d 4) (ar d 5) (ar d 7)))
 | 151 => .b (dec (¬ ee (YZ (ar d 0)) (ar d 0).T.length))
 | 152 => .i (gN (YZ (ar d 0)) (ar d 0).T.length : Nat)
 | 153 => .b (dec (vX (ar d 0)))
 | 154 => .b (dec (¬ ee (qex (ar d 0)) (ar d 0).T.length))
 | 155 => .i (gN (qex (ar d 0)) (ar d 0).T.length : Nat)
 | 156 => .b (dec (Yg (ar d 0)))
 | 160 => .t (Ah (ar d 0) (ar d 1) (ar d 2).I (ar d 3).I (ar d 4) (ar d 5).B)
 | 161 => .i ((Zo (ar d 0) (ar d 1) (ar d 2).I (ar d 3).I (ar d 4) (ar d 5).B (ar d 6).I.toNat).length : Nat)
 | 162 => .t (Ik (ar d 0) (ar d 1) (ar d 2).I (ar d 3).I (ar d 4) (ar d 5).B (ar d 6).I.toNat)
 | 163 => .t (Ik (ar d 0) (ar d 1) (ar d 2).I (ar d 3).I (ar d 4) (ar d 5).B (ar d 0).T.length)
 | 164 => .b (dec (Hi (ar d 0)))
 | 165 => .t (zP (ar d 0) (ar d 1).I.toNat)
 | 166 => .b (dec (¬ ee (qb (ar d 0)) (ar d 0).T.length))
 | 167 => .i (gN (qb (ar d 0)) (ar d 0).T.length : Nat)
 | 168 => .t (zP (ar d 0) (ar d 0).T.length)
 | 169 => .t (atT (ar d 0) (ar d 1) (ar d 2) (ar d 3).I.toNat)
 | 170 => .i (Gk (ar d 0) (ar d 1).I (ar d 2).I.toNat).now
 | 171 => .t (Gk (ar d 0) (ar d 1).I (ar d 2).I.toNat).S
 | 172 => .t (Gk (ar d 0) (ar d 1).I (ar d 2).I.toNat).M
 | 173 => .t (Yt (ar d 0) (ar d 1).I)
 | 174 => .b (dec (Xt (ar d 0)))
 | _ => .i 0
def OU (o : Env) : Prop := ∀ c d, 100 <= c -> c < 200 -> o.uf c d = J9 c d
theorem OU.of {o : Env} (h : ∀ c d, 100 <= c -> c < 200 -> o.uf c d = J9 c d) : OU o := h
theorem OU.az {o o' : Env} (h : OU o) (e : o'.uf = o.uf) : OU o' := fun c d h1 h2 => by rw [e]; exact h c d h1 h2
section
variable {o : Env} (h : OU o) (d : Dv)
include h
theorem OU.OX : o.uf 166 d = .b (dec (¬ ee (qb (ar d 0)) (ar d 0).T.length)) := h 166 d (by decide) (by decide)
theorem OU.Jc : o.uf 167 d = .i (gN (qb (ar d 0)) (ar d 0).T.length : Nat) := h 167 d (by decide) (by decide)
theorem OU.Q6 : o.uf 130 d = .i (J1 (ar d 0) (ar d 1) (ar d 2) : Nat) := h 130 d (by decide) (by decide)
theorem OU.ZE : o.uf 131 d = .b (decide (J1 (ar d 0) (ar d 1) (ar d 2) < (ar d 0).T.length)) := h 131 d (by decide) (by decide)
theorem OU.aa3 : o.uf 132 d = .b (dec (∀ r ∈ (ar d 0).T, qH r)) := h 132 d (by decide) (by decide)
theorem OU.Zs : o.uf 133 d = .b (dec (¬ ee (q7 (ar d 0)) (ar d 0).T.length)) := h 133 d (by decide) (by decide)
theorem OU.Ug : o.uf 134 d = .i (gN (q7 (ar d 0)) (ar d 0).T.length : Nat) := h 134 d (by decide) (by decide)
theorem OU.aa4 : o.uf 135 d = .b (dec (GC (ar d 0))) := h 135 d (by decide) (by decide)
theorem OU.JN : o.uf 136 d = .b (dec (JD (ar d 0) (ar d 1) (ar d 2) (ar d 3) (ar d 4) (ar d 5))) := h 136 d (by decide) (by decide)
theorem OU.Zk : o.uf 137 d = .b (dec (¬ ee (q5 (ar d 0)) (ar d 0).T.length)) := h 137 d (by decide) (by decide)
theorem OU.Ud : o.uf 138 d = .i (gN (q5 (ar d 0)) (ar d 0).T.length : Nat) := h 138 d (by decide) (by decide)
theorem OU.OS : o.uf 139 d = .b (dec (tk (ar d 0))) := h 139 d (by decide) (by decide)
theorem OU.Y7 : o.uf 143 d = .b (dec (¬ ee (qd (ar d 0) (ar d 1)) (ar d 0).T.length)) := h 143 d (by decide) (by decide)
theorem OU.XY : o.uf 144 d = .i (gN (qd (ar d 0) (ar d 1)) (ar d 0).T.length : Nat) := h 144 d (by decide) (by decide)
theorem OU.aci : o.uf 145 d = .b (dec (¬ ee (qp (ar d 0)) (ar d 0).T.length)) := h 145 d (by decide) (by decide)
theorem OU.Wo : o.uf 146 d = .i (gN (qp (ar d 0)) (ar d 0).T.length : Nat) := h 146 d (by decide) (by decide)
theorem OU.abP : o.uf 147 d = .b (dec (vd (ar d 0))) := h 147 d (by decide) (by decide)
theorem OU.aeY : o.uf 148 d = .b (dec (¬ ee (qs (ar d 0)) (ar d 0).S.size)) := h 148 d (by decide) (by decide)
theorem OU.WU : o.uf 149 d = .i (gN (qs (ar d 0)) (ar d 0).S.size : Nat) := h 149 d (by decide) (by decide)
theorem OU.Wy : o.uf 150 d = .b (dec (small (ar d 0) (ar d 1) (ar d 2) (ar d 3) (ar d 4) (ar d 5) (ar d 7))) := h 150 d (by decide) (by decide)
theorem OU.Z5 : o.uf 151 d = .b (dec (¬ ee (YZ (ar d 0)) (ar d 0).T.length)) := h 151 d (by decide) (by decide)
theorem OU.V8 : o.uf 152 d = .i (gN (YZ (ar d 0)) (ar d 0).T.length : Nat) := h 152 d (by decide) (by decide)
theorem OU.ac5 : o.uf 153 d = .b (dec (vX (ar d 0))) := h 153 d (by decide) (by decide)
theorem OU.mB : o.uf 100 d = .s (ju (ar d 0).S (ar d 1).S) := h 100 d (by decide) (by decide)
theorem OU.Mb : o.uf 101 d = .t ((ar d 0).T.map lF) := h 101 d (by decide) (by decide)
theorem OU.I0 : o.uf 102 d = .t ((ar d 0).T.map nv) := h 102 d (by decide) (by decide)
theorem OU.Mg : o.uf 103 d = .t ((ar d 0).T.map bP) := h 103 d (by decide) (by decide)
theorem OU.BL : o.uf 104 d = .i (iI (ar d 0) (ar d 1).S : Nat) := h 104 d (by decide) (by decide)
theorem OU.F7 : o.uf 105 d = .b (hY (ar d 0) (ar d 1).S) := h 105 d (by decide) (by decide)
theorem OU.Ma : o.uf 106 d = .t (eM (ar d 0).T) := h 106 d (by decide) (by decide)
theorem OU.Kg : o.uf 107 d = .t (ez (ar d 0) (ju (ar d 1).S (ar d 2).S) [ar d 1, ar d 2, ar d 3, ar d 4, ar d 5, ar d 6, ar d 7, ar d 8]) := h 107 d (by decide) (by decide)
theorem OU.Qf : o.uf 108 d = .t (cM (ar d 0) (ar d 1).S) := h 108 d (by decide) (by decide)
theorem OU.jt : o.uf 110 d = .b (dec (Pt (ar d 0) (ar d 1) (ar d 2))) := h 110 d (by decide) (by decide)
theorem OU.m8 : o.uf 111 d = .b (dec (dH (ar d 0).T)) := h 111 d (by decide) (by decide)
theorem OU.abj : o.uf 112 d = .b (dec (n9 (ar d 0).T)) := h 112 d (by decide) (by decide)
theorem OU.Ij : o.uf 113 d = .b (dec (n9 ((ar d 0).T.map nv) /\ dH ((ar d 0).T.map nv))) := h 113 d (by decide) (by decide)
theorem OU.adF : o.uf 121 d = .i (dn (ar d 0).I (ar d 1).I (ar d 2).I.toNat) := h 121 d (by decide) (by decide)
theorem OU.Ub : o.uf 122 d = .i (up (ar d 0).I (ar d 1).I (ar d 2).I.toNat) := h 122 d (by decide) (by decide)
theorem OU.Z9 : o.uf 123 d = .i (20 * 2 ^ (ar d 0).I.toNat) := h 123 d (by decide) (by decide)
end
theorem uC (a b : ByteArray) : dq a b = decide (a.toList < b.toList) := bytesLess_eq _ _
theorem BJ (l : Dv) (k : ByteArray) : iI l k <= l.T.length := ke
end Go.Proofs.YtdlppkhmmclipaaGreat.sxObj
namespace Go.Proofs.YtdlppkhmmclipaaGreat.sxObj
open Go.Sx
set_option linter.unusedVariables false
abbrev NT : E := .v 7104
abbrev YW : E := .o2 .lt (.v 2100) (.o1 .ab NT)
abbrev fo : E := .il 0
def AL : List (aa × List Ob) :=
 [(fT YW [], oO (.o2 .seq (eC 0 NT (.v 2100)) (eC 0 NT fo)) (oO (.o2 .seq (eC 1 NT (.v 2100)) (eC 1 NT fo)) [])),
  (fF YW [], oT fo NT [])]
def Ai : List (aa × List Ob) :=
 [(fT YW [], []),
  (fF YW [], oT (.o2 .cJ NT (.v 2100)) NT [])]
def AJ : List (aa × List Ob) :=
 [([], oO (.o2 .le (.o1 .ab (.v 7114)) (.il 2147483647)) [])]
abbrev B5 : E := .v 2101
abbrev Ef : E := .v 7120
abbrev ob5 : E := .o2 .lt B5 (.o1 .ab Ef)
abbrev ob6 : E := eP (eC 0 Ef B5) (eP (eC 1 Ef B5) (eP (eC 2 Ef B5) (eP (eC 3 Ef B5) (eP (eC 4 Ef B5) (eP (eC 5 Ef B5) (eP (eC 6 Ef B5) (eP (eC 7 Ef B5) (eP fo fo))))))))
abbrev Y2 : E := .uf 101 (eP Ef fo)
def wI : List (aa × List Ob) :=
 [(fT ob5 [], oO (.uf 110 (eP (eC 0 Ef B5) (eP (eC 1 Ef B5) (eP (eC 4 Ef B5) fo)))) (oT ob6 (eC 0 Y2 fo) [])),
  (fF ob5 [], oT fo Y2 [])]
def vL : List (aa × List Ob) :=
 [(fT ob5 [], oO (.uf 110 (eP (eC 0 Ef B5) (eP (eC 1 Ef B5) (eP (eC 4 Ef B5) fo)))) (oT ob6 (eC 0 Y2 B5) [])),
  (fF ob5 [], oO (.o2 .le B5 (.o1 .ab Y2)) (oT (.o2 .cJ Y2 B5) Y2 []))]
def Dh : List (aa × List Ob) :=
 [([], [])]
abbrev Su : E := eC 4 (.v 7130) (.v 7131)
abbrev ob9 : E := .o2 .lt (.v 2102) (.o1 .ab Su)
def xK : List (aa × List Ob) :=
 [(fT ob9 [], oO (.o2 .seq (eC 0 Su (.v 2102)) (eC 0 Su fo)) (oO (.o2 .seq (eC 1 Su (.v 2102)) (eC 1 Su fo)) [])),
  (fF ob9 [], oT fo Su [])]
def vM : List (aa × List Ob) :=
 [(fT ob9 [], []),
  (fF ob9 [], oT (.o2 .cJ Su (.v 2102)) Su [])]
def xw : List (aa × List Ob) :=
 [([], oO (.o2 .le (.o1 .ab (eC 4 (.v 7135) (.v 7136))) (.il 2147483647)) [])]
abbrev XQ : E := eC 6 (.v 7140) (.v 7141)
abbrev Kl : E := eC 0 (.v 7140) (.v 7141)
abbrev aew : E := .o2 .lt fo (.o1 .size Kl)
abbrev Rl : E := eC 1 (.v 7140) (.v 7141)
abbrev uP : E := .il 9223372036854775807
abbrev aaZ : E := .uf 100 (eP Kl (eP Rl fo))
def E0 : List (aa × List Ob) :=
 [(fT XQ [], []),
  (fT aew (fF XQ []), oO (.o2 .le (.o2 .add (.o1 .size (.o2 .cat Kl (.sl [47]))) (.o1 .size Rl)) uP) (oO (.o2 .le (.o2 .add (.o1 .size Kl) (.il 1)) uP) (oO (.o2 .seq (.o2 .cat (.o2 .cat Kl (.sl [47])) Rl) aaZ) []))),
  (fF aew (fF XQ []), oO (.o2 .seq Rl aaZ) [])]
def AI : List (aa × List Ob) :=
 [(fT (.v 7156) [], []),
  (fF (.v 7156) [], [])]
abbrev ael : E := .uf 100 (eP (.v 7160) (eP (.v 7161) fo))
abbrev acy : E := .o2 .cat (.v 7160) (.sl [47])
def w5 : List (aa × List Ob) :=
 [(fT (.v 7166) [], []),
  (fT (.o2 .seq (.v 7160) (.sl [])) (fF (.v 7166) []), oO (.o2 .seq (.v 7161) ael) []),
  (fF (.o2 .seq (.v 7160) (.sl [])) (fF (.v 7166) []), oO (.o2 .le (.o2 .add (.o1 .size acy) (.o1 .size (.v 7161))) uP) (oO (.o2 .le (.o2 .add (.o1 .size (.v 7160)) (.il 1)) uP) (oO (.o2 .seq (.o2 .cat acy (.v 7161)) ael) [])))]
abbrev p8 : E := .v 7170
abbrev oq : E := .v 2103
abbrev Vy : E := .o2 .lt oq (.o1 .ab p8)
abbrev Z1 : aa := fT (eC 6 p8 oq) (fT Vy [])
abbrev JL : E := eP p8 (eP (.v 7171) fo)
abbrev ZL : List Ob := oO (.o2 .lt oq (.uf 104 JL)) (oO (.uf 110 (eP (eC 0 p8 oq) (eP (eC 1 p8 oq) (eP (eC 4 p8 oq) fo)))) [])
abbrev W4 : E := .o2 .lt (.uf 104 JL) (.o1 .ab p8)
abbrev Wn : E := .uf 100 (eP (eC 0 p8 oq) (eP (eC 1 p8 oq) fo))
abbrev Zq : aa := fF (eC 6 p8 oq) (fT Vy [])
def zY : List (aa × List Ob) :=
 [(fT (.o2 .slt (.sl []) (.v 7171)) Z1, ZL),
  (fF (.o2 .slt (.sl []) (.v 7171)) Z1, oO W4 (oO (.uf 110 (eP (eC 0 p8 oq) (eP (eC 1 p8 oq) (eP (eC 4 p8 oq) fo)))) (oO (.o2 .aN oq (.uf 104 JL)) (oO (.o2 .beq (.o2 .seq (.sl []) (.v 7171)) (.uf 105 JL)) [])))),
  (fT (.o2 .slt Wn (.v 7171)) Zq, ZL),
  (fF (.o2 .slt Wn (.v 7171)) Zq, oO W4 (oO (.uf 110 (eP (eC 0 p8 oq) (eP (eC 1 p8 oq) (eP (eC 4 p8 oq) fo)))) (oO (.o2 .aN oq (.uf 104 JL)) (oO (.o2 .beq (.o2 .seq Wn (.v 7171)) (.uf 105 JL)) [])))),
  (fF Vy [], oO (.o1 .not W4) [])]
abbrev Wz : E := eP (.v 7173) (eP (.v 7174) fo)
abbrev adR : E := .o2 .lt (.uf 104 Wz) (.o1 .ab (.v 7173))
def vK : List (aa × List Ob) :=
 [(fT adR [], []),
  (fF adR [], oO (.o2 .aN (.o1 .ab (.v 7173)) (.uf 104 Wz)) (oO (.o2 .beq (.bl false) (.uf 105 Wz)) []))]
abbrev jY : E := .v 7180
abbrev NL : E := eP jY (eP (.uf 100 (eP (.v 7181) (eP (.v 7182) fo))) fo)
abbrev gw : E := .uf 104 NL
abbrev og : E := .o2 .add gw (.il 1)
abbrev Nj : E := .o2 .nY jY og
abbrev RM : E := .o2 .aN (.o1 .ab Nj) fo
abbrev rz : E := .o1 .ab (.o2 .cJ jY gw)
abbrev ZY : aa := fT (.o2 .aN rz fo) (fT (.uf 105 NL) [])
abbrev Le : E := eP (.v 7181) (eP (.v 7182) (eP (.v 7183) (eP (.v 7184) (eP (.v 7185) (eP (.v 7186) (eP (.v 7187) (eP (.v 7188) fo)))))))
abbrev It : E := .uf 107 (eP jY Le)
abbrev ac1 : List Ob := oO (.o2 .le gw (.o1 .ab jY)) (oO (.o2 .le fo gw) (oT Le It []))
abbrev pY : E := .il 2147483648
abbrev abB : aa := fF (.o2 .aN rz fo) (fT (.uf 105 NL) [])
abbrev Xq : E := .o2 .fS (.o2 .cJ jY gw) Le
abbrev abq : List Ob := oO (.o2 .le gw (.o1 .ab jY)) (oO (.o2 .le fo gw) (oT Xq It []))
abbrev MW : E := .o2 .nY jY gw
abbrev Oy : E := .o2 .aN (.o1 .ab MW) fo
abbrev aco : aa := fT (.o2 .aN rz fo) (fF (.uf 105 NL) [])
abbrev aax : aa := fF (.o2 .aN rz fo) (fF (.uf 105 NL) [])
def qY : List (aa × List Ob) :=
 [(fT RM ZY, oO (.o2 .le gw (.o1 .ab jY)) (oO (.o2 .le fo gw) (oO (.o2 .le og (.o1 .ab jY)) (oO (.o2 .le fo og) (oO (.o2 .le og uP) (oO (.o2 .le (.il (-9223372036854775808)) og) ac1)))))),
  (fF RM ZY, oO (.o2 .le (.o2 .add (.il 1) (.o1 .ab Nj)) pY) (oO (.o2 .le gw (.o1 .ab jY)) (oO (.o2 .le fo gw) (oO (.o2 .le og (.o1 .ab jY)) (oO (.o2 .le fo og) (oO (.o2 .le og uP) (oO (.o2 .le (.il (-9223372036854775808)) og) (oO (.o2 .le gw (.o1 .ab jY)) (oO (.o2 .le fo gw) (oT (.o2 .fS Le Nj) It [])))))))))),
  (fT RM abB, oO (.o2 .le rz pY) (oO (.o2 .le rz pY) (oO (.o2 .le gw (.o1 .ab jY)) (oO (.o2 .le fo gw) (oO (.o2 .le og (.o1 .ab jY)) (oO (.o2 .le fo og) (oO (.o2 .le og uP) (oO (.o2 .le (.il (-9223372036854775808)) og) abq)))))))),
  (fF RM abB, oO (.o2 .le (.o2 .add (.o2 .add rz (.il 1)) (.o1 .ab Nj)) pY) (oO (.o2 .le rz pY) (oO (.o2 .le rz pY) (oO (.o2 .le gw (.o1 .ab jY)) (oO (.o2 .le fo gw) (oO (.o2 .le og (.o1 .ab jY)) (oO (.o2 .le fo og) (oO (.o2 .le og uP) (oO (.o2 .le (.il (-9223372036854775808)) og) (oO (.o2 .le gw (.o1 .ab jY)) (oO (.o2 .le fo gw) (oT (.o2 .fS Xq Nj) It [])))))))))))),
  (fT Oy aco, oO (.o2 .le gw (.o1 .ab jY)) (oO (.o2 .le fo gw) ac1)),
  (fF Oy aco, oO (.o2 .le (.o2 .add (.il 1) (.o1 .ab MW)) pY) (oO (.o2 .le gw (.o1 .ab jY)) (oO (.o2 .le fo gw) (oO (.o2 .le gw (.o1 .ab jY)) (oO (.o2 .le fo gw) (oT (.o2 .fS Le MW) It [])))))),
  (fT Oy aax, oO (.o2 .le rz pY) (oO (.o2 .le rz pY) (oO (.o2 .le gw (.o1 .ab jY)) (oO (.o2 .le fo gw) abq)))),
  (fF Oy aax, oO (.o2 .le (.o2 .add (.o2 .add rz (.il 1)) (.o1 .ab MW)) pY) (oO (.o2 .le rz pY) (oO (.o2 .le rz pY) (oO (.o2 .le gw (.o1 .ab jY)) (oO (.o2 .le fo gw) (oO (.o2 .le gw (.o1 .ab jY)) (oO (.o2 .le fo gw) (oT (.o2 .fS Xq MW) It []))))))))]
abbrev Np : E := eP (.v 7190) (eP (.v 7191) fo)
abbrev yK : E := .uf 104 Np
abbrev oL : E := .o2 .add yK (.il 1)
abbrev M4 : E := .o2 .nY (.v 7190) oL
abbrev Q9 : E := .o2 .aN (.o1 .ab M4) fo
abbrev I5 : E := .o2 .cJ (.v 7190) yK
abbrev aaW : E := .o2 .aN (.o1 .ab I5) fo
abbrev abz : aa := fT aaW (fT (.uf 105 Np) [])
abbrev NB : E := .uf 108 Np
abbrev acV : aa := fF aaW (fT (.uf 105 Np) [])
def l6 : List (aa × List Ob) :=
 [(fT Q9 abz, oO (.o2 .le oL (.o1 .ab (.v 7190))) (oO (.o2 .le fo oL) (oO (.o2 .le oL uP) (oO (.o2 .le (.il (-9223372036854775808)) oL) (oO (.o2 .le yK (.o1 .ab (.v 7190))) (oO (.o2 .le fo yK) (oT fo NB []))))))),
  (fF Q9 abz, oO (.o2 .le (.o1 .ab M4) pY) (oO (.o2 .le oL (.o1 .ab (.v 7190))) (oO (.o2 .le fo oL) (oO (.o2 .le oL uP) (oO (.o2 .le (.il (-9223372036854775808)) oL) (oO (.o2 .le yK (.o1 .ab (.v 7190))) (oO (.o2 .le fo yK) (oT M4 NB [])))))))),
  (fT Q9 acV, oO (.o2 .le oL (.o1 .ab (.v 7190))) (oO (.o2 .le fo oL) (oO (.o2 .le oL uP) (oO (.o2 .le (.il (-9223372036854775808)) oL) (oO (.o2 .le (.o1 .ab I5) pY) (oO (.o2 .le yK (.o1 .ab (.v 7190))) (oO (.o2 .le fo yK) (oT I5 NB [])))))))),
  (fF Q9 acV, oO (.o2 .le (.o2 .add (.o1 .ab I5) (.o1 .ab M4)) pY) (oO (.o2 .le oL (.o1 .ab (.v 7190))) (oO (.o2 .le fo oL) (oO (.o2 .le oL uP) (oO (.o2 .le (.il (-9223372036854775808)) oL) (oO (.o2 .le (.o1 .ab I5) pY) (oO (.o2 .le yK (.o1 .ab (.v 7190))) (oO (.o2 .le fo yK) (oT (.o2 .fS I5 M4) NB []))))))))),
  (fF (.uf 105 Np) [], oT (.v 7190) NB [])]
abbrev nV : E := .v 7195
abbrev l4 : E := .v 2104
abbrev PR : E := .o2 .lt l4 (.o1 .ab nV)
abbrev aeG : aa := fT (eC 6 nV l4) (fT PR [])
abbrev Dq : E := .uf 103 (eP nV fo)
abbrev aaB : aa := fF (eC 6 nV l4) (fT PR [])
abbrev aaO : E := .uf 100 (eP (eC 0 nV l4) (eP (eC 1 nV l4) fo))
def tL : List (aa × List Ob) :=
 [(aeG, oO (.uf 110 (eP (eC 0 nV l4) (eP (eC 1 nV l4) (eP (eC 4 nV l4) fo)))) (oO (.o2 .seq (.sl []) (eC 0 Dq fo)) [])),
  (aaB, oO (.uf 110 (eP (eC 0 nV l4) (eP (eC 1 nV l4) (eP (eC 4 nV l4) fo)))) (oO (.o2 .seq aaO (eC 0 Dq fo)) [])),
  (fF PR [], oT fo Dq [])]
def tG : List (aa × List Ob) :=
 [(aeG, oO (.uf 110 (eP (eC 0 nV l4) (eP (eC 1 nV l4) (eP (eC 4 nV l4) fo)))) (oO (.o2 .seq (.sl []) (eC 0 Dq l4)) [])),
  (aaB, oO (.uf 110 (eP (eC 0 nV l4) (eP (eC 1 nV l4) (eP (eC 4 nV l4) fo)))) (oO (.o2 .seq aaO (eC 0 Dq l4)) [])),
  (fF PR [], oO (.o2 .le l4 (.o1 .ab Dq)) (oT (.o2 .cJ Dq l4) Dq []))]
def zB : List (aa × List Ob) :=
 [([], [])]
abbrev QR : E := .o1 .ab (.v 7198)
abbrev Qg : E := .uf 106 (eP (.v 7198) fo)
def Gg : List (aa × List Ob) :=
 [(fT (.o2 .aN QR fo) [], oT fo Qg []),
  (fF (.o2 .aN QR fo) [], oO (.o2 .le QR (.o1 .ab Qg)) (oT (.o2 .cJ Qg QR) Qg []))]
end Go.Proofs.YtdlppkhmmclipaaGreat.sxObj
namespace Go.Proofs.YtdlppkhmmclipaaGreat.sxObj
open Go.Sx Go.RowKit Go.Proofs.YtdlppkhmmclipaaGreat
set_option linter.unusedVariables false
set_option linter.unusedSimpArgs false
set_option maxRecDepth 100000
theorem cF {l : Dv} (h : dH l.T) {n : Nat} (hn : n < l.T.length) : Pt (cc (row l n) 0) (cc (row l n) 1) (cc (row l n) 4) := h _ (eb hn)
theorem map_take {f : Row -> Row} {l : Dv} {r : Nat} (h : ¬ (r : Int) < (l.T.length : Int)) : (l.T.map f).take r = l.T.map f := eH (by rw [List.length_map]; omega)
theorem tH {l : List Row} (h : ¬ (0 : Int) < (l.length : Int)) : l = [] := List.length_eq_zero_iff.1 (by omega)
section
variable {o : Env}
theorem Fp (hr : o.v 2100 = .i (0 : Nat)) : bo o AL := by
 simp only [AL, af, au, and_true]
 and_intros
 all_goals intro h
 all_goals simp only [SS, implies_true, hr] at h ⊢
 exact (tH (by simpa using h)).symm
theorem EE {r : Nat} (hr : o.v 2100 = .i r) : bo o Ai := by
 simp only [Ai, af, au, and_true]
 and_intros
 all_goals intro h
 all_goals simp only [SS, implies_true, hr] at h ⊢
 exact eH (by omega)
theorem EF (hu : OU o) (hent : l8.aU.ay o) : bo o AJ := by
 simp only [AJ, af, au, and_true]; intro _; simp only [l8, Fq, vE, pk, List.foldr, Nat.reduceAdd, SS, implies_true, hu.jt] at hent ⊢; have := (al.1 hent).2.2; omega
theorem Dn (hu : OU o) (hr : o.v 2101 = .i (0 : Nat)) (hent : (lH.aU 0).ay o) : bo o wI := by
 simp only [lH, AG, u9, aB, pk, List.foldr, SS, implies_true, hu.m8] at hent; have hok := al.1 hent.1; simp only [wI, af, au, and_true]
 and_intros
 all_goals intro h
 all_goals simp only [SS, implies_true, hr, hu.jt, hu.Mb] at h ⊢
 ·have hl : 0 < (o.v 7120).T.length := by omega
  refine ⟨al.2 (cF hok hl), ?_⟩; rw [iw (by simpa using hl)]
  rfl
 ·have := tH (l := (o.v 7120).T) (by simpa using h)
  rw [this]; rfl
theorem DE (hu : OU o) {r : Nat} (hr : o.v 2101 = .i r) (hent : (lH.aU 0).ay o) (hle : (r : Int) <= ((aB (.v 7120)).den o).I) : bo o vL := by
 simp only [lH, AG, u9, aB, pk, List.foldr, SS, implies_true, hu.m8] at hent hle; have hok := al.1 hent.1; simp only [vL, af, au, and_true]
 and_intros
 all_goals intro h
 all_goals simp only [SS, implies_true, hr, hu.jt, hu.Mb] at h ⊢
 ·have hl : r < (o.v 7120).T.length := by omega
  refine ⟨al.2 (cF hok hl), ?_⟩; rw [iw (by simpa using hl)]
  rfl
 ·exact ⟨by rw [List.length_map]; omega, map_take h⟩
theorem CE (hr : o.v 2102 = .i (0 : Nat)) : bo o xK := by
 simp only [xK, af, au, and_true]
 and_intros
 all_goals intro h
 all_goals simp only [SS, implies_true, hr] at h ⊢
 exact (tH (by simpa using h)).symm
theorem C4 {r : Nat} (hr : o.v 2102 = .i r) : bo o vM := by
 simp only [vM, af, au, and_true]
 and_intros
 all_goals intro h
 all_goals simp only [SS, implies_true, hr] at h ⊢
 exact eH (by omega)
theorem D6 (hu : OU o) (hent : iY.aU.ay o) : bo o xw := by
 simp only [xw, af, au, and_true]; intro _; simp only [iY, Fq, cE, pk, List.foldr, SS, implies_true, hu.jt] at hent ⊢; have := (al.1 hent).2.2; omega
theorem Io (hu : OU o) (hent : sg.aU.ay o) : bo o E0 := by
 simp only [sg, Fq, cE, pk, List.foldr, SS, implies_true, hu.jt] at hent; have hs := al.1 hent; have h1 := hs.1; have h2 := hs.2.1; have hz : (ByteArray.mk [47].toArray).size = 1 := rfl; simp only [E0, af, au, and_true]
 and_intros
 all_goals intro h
 all_goals simp only [SS, implies_true, hu.mB, ByteArray.size_append, hz] at h ⊢
 ·refine ⟨by omega, by omega, ?_⟩
  unfold ju; rw [if_neg (by omega)]
 ·unfold ju; rw [if_pos (by omega)]
theorem Fh : bo o AI := by
 simp only [AI, af, au, and_true]
 and_intros
 all_goals intro h
 all_goals simp only [SS, implies_true]
theorem D9 (hu : OU o) (hent : fj.aU.ay o) : bo o w5 := by
 simp only [fj, Fq, vE, pk, List.foldr, Nat.reduceAdd, SS, implies_true, hu.jt] at hent; have hs := al.1 hent; have h1 := hs.1; have h2 := hs.2.1; have hz : (ByteArray.mk [47].toArray).size = 1 := rfl; have he : (ByteArray.mk [].toArray).toList = [] := by rw [toList_data]
 have h0 : ∀ b : ByteArray, b.size = 0 ↔ b.toList = [] := fun b => by
  rw [toList_data]; show b.data.size = 0 ↔ _; rw [<- Array.length_toList, List.length_eq_zero_iff]
 simp only [w5, af, au, and_true]
 and_intros
 all_goals intro h
 all_goals simp only [SS, implies_true, hu.mB, ByteArray.size_append, hz, he, <- h0] at h ⊢
 ·unfold ju; rw [if_pos h.1]
 ·refine ⟨by omega, by omega, ?_⟩
  unfold ju; rw [if_neg fun e => h.1 ((h0 _).1 e)]
theorem Cr {l : Dv} {k : ByteArray} {r : Nat} (hr : r <= iI l k) (hl : r < l.T.length) (h : dq (kS (row l r)) k = true) : r < iI l k := by
 refine r6 hr hl ?_; unfold J2; rw [h]; rfl
theorem DN {l : Dv} {k : ByteArray} {r : Nat} (hr : r <= iI l k) (hl : r < l.T.length) (h : dq (kS (row l r)) k = false) : r = iI l k /\ iI l k < l.T.length := by
 have hb : J2 l k r = true := by unfold J2; rw [h]; rfl
 have hs := Cg hr hl hb; refine ⟨?_, hs⟩; rcases Nat.lt_or_ge r (iI l k) with cU | hge
 ·have : J2 l k r = false := bJ (n := l.T.length) cU; rw [hb] at this; cases this
 ·omega
theorem vk {l : Dv} {k : ByteArray} (h : iI l k < l.T.length) : hY l k = ((kS (row l (iI l k))).toList == k.toList) := by
 unfold hY; rw [decide_eq_true h]; rfl
theorem xl {r : Row} (h : (cc r 6).B = true) : kS r = ⟨#[]⟩ := by unfold kS bad; rw [if_pos h]
theorem mX {r : Row} (h : (cc r 6).B = false) : kS r = ju (cc r 0).S (cc r 1).S := by unfold kS bad; rw [if_neg (by rw [h]; simp)]; rfl
section
variable {o : Env}
theorem Em (hu : OU o) {r : Nat} (hr : o.v 2103 = .i r) (hent : (pE.aU 0).ay o) (hle : (r : Int) <= ((E.uf 104 Qr).den o).I) : bo o zY := by
 simp only [pE, u9, aB, Qr, pk, List.foldr, SS, implies_true, hu.m8, hu.BL] at hent hle; have hok := al.1 hent.1; have hmax := hent.2; have hle : r <= iI (o.v 7170) (o.v 7171).S := by omega
 have hlen := BJ (o.v 7170) (o.v 7171).S; have he : (ByteArray.mk [].toArray) = ⟨#[]⟩ := rfl; simp only [zY, af, au, and_true]
 and_intros
 all_goals intro h
 all_goals simp only [SS, implies_true, hr, hu.mB, hu.BL, hu.F7, hu.jt, he] at h ⊢
 ·have hl : r < (o.v 7170).T.length := by omega
  have := Cr (k := (o.v 7171).S) hle hl (by rw [xl h.2.1]; exact h.1)
  exact ⟨by omega, al.2 (cF hok hl)⟩
 ·have hl : r < (o.v 7170).T.length := by omega
  obtain ⟨h1, h2⟩ := DN (k := (o.v 7171).S) hle hl (by rw [xl h.2.1]; exact h.1)
  refine ⟨by omega, al.2 (cF hok hl), by omega, ?_⟩
  rw [vk h2, <- h1, xl h.2.1]
 ·have hl : r < (o.v 7170).T.length := by omega
  have := Cr (k := (o.v 7171).S) hle hl (by rw [mX h.2.1]; exact h.1)
  exact ⟨by omega, al.2 (cF hok hl)⟩
 ·have hl : r < (o.v 7170).T.length := by omega
  obtain ⟨h1, h2⟩ := DN (k := (o.v 7171).S) hle hl (by rw [mX h.2.1]; exact h.1)
  refine ⟨by omega, al.2 (cF hok hl), by omega, ?_⟩
  rw [vk h2, <- h1, mX h.2.1]
 ·omega
theorem Ec (hu : OU o) : bo o vK := by
 have hlen := BJ (o.v 7173) (o.v 7174).S; simp only [vK, af, au, and_true]
 and_intros
 all_goals intro h
 all_goals simp only [SS, implies_true, hu.BL, hu.F7] at h ⊢
 refine ⟨by omega, ?_⟩
 unfold hY; rw [decide_eq_false (by omega)]; rfl
theorem BC {l : Dv} {k : ByteArray} (h : hY l k = true) : iI l k < l.T.length := by
 unfold hY at h; rw [Bool.and_eq_true] at h; exact of_decide_eq_true h.1
theorem Im (hu : OU o) (hent : gI.aU.ay o) : bo o qY := by
 simp only [gI, u9, Fq, vE, aB, pk, List.foldr, Nat.reduceAdd, SS, implies_true, hu.m8, hu.jt] at hent; obtain ⟨_, _, hb, hmax⟩ := hent; have hlen := BJ (o.v 7180) (ju (o.v 7181).S (o.v 7182).S); have cU := @BC (o.v 7180) (ju (o.v 7181).S (o.v 7182).S); simp only [qY, af, au, and_true]
 and_intros
 all_goals intro h
 all_goals simp only [SS, implies_true, hu.mB, hu.BL, hu.F7, hu.Kg] at h ⊢
 all_goals simp only [ez, h, true_implies, Bool.false_eq_true, false_implies] at cU ⊢
 all_goals generalize iI (o.v 7180) (ju (o.v 7181).S (o.v 7182).S) = n at *
 all_goals simp only [List.length_drop, List.length_take, if_true, if_false, Bool.false_eq_true, ri, Int.toNat_natCast] at h ⊢
 all_goals have e1 : (min n (o.v 7180).T.length) = n := by omega
 all_goals rw [e1] at h
 all_goals and_intros
 all_goals first
  | omega
  | (have h0 : n = 0 := by omega
     subst h0
     first
      | rfl
      | (rw [List.drop_of_length_le (by omega)]; rfl))
  | (simp only [List.append_assoc, List.cons_append, List.nil_append]; done)
  | (rw [List.drop_of_length_le (by omega)])
  | skip
theorem AY (hu : OU o) (hent : fU.aU.ay o) : bo o l6 := by
 simp only [fU, u9, aB, pk, List.foldr, SS, implies_true, hu.m8] at hent; obtain ⟨_, hmax⟩ := hent; have hlen := BJ (o.v 7190) (o.v 7191).S; have cU := @BC (o.v 7190) (o.v 7191).S; simp only [l6, af, au, and_true]
 and_intros
 all_goals intro h
 all_goals simp only [SS, implies_true, hu.BL, hu.F7, hu.Qf] at h ⊢
 all_goals simp only [cM, h, true_implies, Bool.false_eq_true, false_implies] at cU ⊢
 all_goals generalize iI (o.v 7190) (o.v 7191).S = n at *
 all_goals simp only [List.length_drop, List.length_take, if_true, if_false, Bool.false_eq_true, ri, Int.toNat_natCast] at h ⊢
 all_goals have e1 : (min n (o.v 7190).T.length) = n := by omega
 all_goals try rw [e1] at h
 all_goals and_intros
 all_goals first
  | omega
  | (have h0 : n = 0 := by omega
     subst h0
     first
      | rfl
      | (rw [List.drop_of_length_le (by omega)]; rfl))
  | (rw [List.drop_of_length_le (by omega), List.append_nil])
  | trivial
theorem Bj (hu : OU o) (hr : o.v 2104 = .i (0 : Nat)) (hent : (je.aU 0).ay o) : bo o tL := by
 simp only [je, AG, u9, aB, pk, List.foldr, SS, implies_true, hu.m8] at hent; have hok := al.1 hent.1; have he : (ByteArray.mk [].toArray) = ⟨#[]⟩ := rfl; simp only [tL, af, au, and_true]
 and_intros
 all_goals intro h
 all_goals simp only [SS, implies_true, hr, hu.jt, hu.Mg, hu.mB, he] at h ⊢
 ·have hl : 0 < (o.v 7195).T.length := by omega
  refine ⟨al.2 (cF hok hl), ?_⟩; rw [iw (by simpa using hl)]
  show _ = (kS (row (o.v 7195) 0)).toList; rw [xl h.1]
 ·have hl : 0 < (o.v 7195).T.length := by omega
  refine ⟨al.2 (cF hok hl), ?_⟩; rw [iw (by simpa using hl)]
  show _ = (kS (row (o.v 7195) 0)).toList; rw [mX h.1]
 ·have := tH (l := (o.v 7195).T) (by simpa using h)
  rw [this]; rfl
theorem BE (hu : OU o) {r : Nat} (hr : o.v 2104 = .i r) (hent : (je.aU 0).ay o) (hle : (r : Int) <= ((aB (.v 7195)).den o).I) : bo o tG := by
 simp only [je, AG, u9, aB, pk, List.foldr, SS, implies_true, hu.m8] at hent hle; have hok := al.1 hent.1; have he : (ByteArray.mk [].toArray) = ⟨#[]⟩ := rfl; simp only [tG, af, au, and_true]
 and_intros
 all_goals intro h
 all_goals simp only [SS, implies_true, hr, hu.jt, hu.Mg, hu.mB, he] at h ⊢
 ·have hl : r < (o.v 7195).T.length := by omega
  refine ⟨al.2 (cF hok hl), ?_⟩; rw [iw (by simpa using hl)]
  show _ = (kS (row (o.v 7195) r)).toList; rw [xl h.1]
 ·have hl : r < (o.v 7195).T.length := by omega
  refine ⟨al.2 (cF hok hl), ?_⟩; rw [iw (by simpa using hl)]
  show _ = (kS (row (o.v 7195) r)).toList; rw [mX h.1]
 ·exact ⟨by rw [List.length_map]; omega, map_take h⟩
theorem Ix (hu : OU o) : bo o Gg := by
 simp only [Gg, af, au, and_true]
 and_intros
 all_goals intro h
 all_goals simp only [SS, implies_true, hu.Ma] at h ⊢
 ·have := tH (l := (o.v 7198).T) (by omega)
  rw [this]; simp [eM]
 ·exact ⟨by rw [zH]; omega, eH (by rw [zH]; omega)⟩
end
end
end Go.Proofs.YtdlppkhmmclipaaGreat.sxObj
namespace Go.Proofs.YtdlppkhmmclipaaGreat
open Go Go.Shelf Go.Sx Go.Sort
def ba : Ren :=
{
 f := fun x =>
  match x with
  | 190 => 69
  | 125 => 91
  | 258 => 90
  | 128 => 106
  | 129 => 107
  | 302 => 97
  | 303 => 98
  | 304 => 99
  | 305 => 100
  | 306 => 101
  | 307 => 102
  | 308 => 103
  | 309 => 104
  | 310 => 105
  | 333 => 110
  | 329 => 111
  | 330 => 112
  | 334 => 113
  | 335 => 114
  | 336 => 115
  | 344 => 117
  | n => n,
 t := fun x =>
  match x with
  | 31 => 34
  | 9 => 9
  | 3 => 3
  | 46 => 200
  | 0 => 0
  | 51 => 226
  | 53 => 228
  | 4 => 4
  | 183 => 219
  | 182 => 218
  | 131 => 40
  | 5 => 5
  | 218 => 233
  | 222 => 237
  | 228 => 239
  | 229 => 240
  | n => n,
 g := fun x =>
  have n := x;
  n }
theorem OO : Lays.n190 Tryz.prog ba :=
{ mixed := Eq.refl true, f125 := Eq.trans Tryz.func91 (congrArg some (Eq.refl (Body.n125 ba))),
 f128 := Eq.trans Tryz.func106 (congrArg some (Eq.refl (Body.n128 ba))),
 f129 := Eq.trans Tryz.func107 (congrArg some (Eq.refl (Body.n129 ba))),
 f190 := Eq.trans Tryz.func69 (congrArg some (Eq.refl (Body.n190 ba))),
 f258 := Eq.trans Tryz.func90 (congrArg some (Eq.refl (Body.n258 ba))),
 f302 := Eq.trans Tryz.func97 (congrArg some (Eq.refl (Body.n302 ba))),
 f303 := Eq.trans Tryz.func98 (congrArg some (Eq.refl (Body.n303 ba))),
 f304 := Eq.trans Tryz.func99 (congrArg some (Eq.refl (Body.n304 ba))),
 f305 := Eq.trans Tryz.func100 (congrArg some (Eq.refl (Body.n305 ba))),
 f306 := Eq.trans Tryz.func101 (congrArg some (Eq.refl (Body.n306 ba))),
 f307 := Eq.trans Tryz.func102 (congrArg some (Eq.refl (Body.n307 ba))),
 f308 := Eq.trans Tryz.func103 (congrArg some (Eq.refl (Body.n308 ba))),
 f309 := Eq.trans Tryz.func104 (congrArg some (Eq.refl (Body.n309 ba))),
 f310 := Eq.trans Tryz.func105 (congrArg some (Eq.refl (Body.n310 ba))),
 f329 := Eq.trans Tryz.func111 (congrArg some (Eq.refl (Body.n329 ba))),
 f330 := Eq.trans Tryz.func112 (congrArg some (Eq.refl (Body.n330 ba))),
 f333 := Eq.trans Tryz.func110 (congrArg some (Eq.refl (Body.n333 ba))),
 f334 := Eq.trans Tryz.func113 (congrArg some (Eq.refl (Body.n334 ba))),
 f335 := Eq.trans Tryz.func114 (congrArg some (Eq.refl (Body.n335 ba))),
 f336 := Eq.trans Tryz.func115 (congrArg some (Eq.refl (Body.n336 ba))),
 f344 := Eq.trans Tryz.func117 (congrArg some (Eq.refl (Body.n344 ba))), t0 := Tryz.underlying0,
 a0 := Tryz.isAgg0, z0 := Tryz.sizeOf0, v0 := Tryz.zeroValue0, t3 := Tryz.underlying3, a3 := Tryz.isAgg3,
 z3 := Tryz.sizeOf3, v3 := Tryz.zeroValue3, t4 := Tryz.underlying4, a4 := Tryz.isAgg4, z4 := Tryz.sizeOf4,
 v4 := Tryz.zeroValue4, t5 := Tryz.underlying5, a5 := Tryz.isAgg5, z5 := Tryz.sizeOf5, v5 := Tryz.zeroValue5,
 t9 := Tryz.underlying9, a9 := Tryz.isAgg9, z9 := Tryz.sizeOf9, v9 := Tryz.zeroValue9, t31 := Tryz.underlying34,
 a31 := Tryz.isAgg34, z31 := Tryz.sizeOf34, v31 := Tryz.zeroValue34, t46 := Tryz.underlying200, a46 := Tryz.isAgg200,
 z46 := Tryz.sizeOf200, v46 := Tryz.zeroValue200, t51 := Tryz.underlying226, a51 := Tryz.isAgg226,
 z51 := Tryz.sizeOf226, v51 := Tryz.zeroValue226, t53 := Tryz.underlying228, a53 := Tryz.isAgg228,
 z53 := Tryz.sizeOf228, v53 := Tryz.zeroValue228, t131 := Tryz.underlying40, a131 := Tryz.isAgg40,
 z131 := Tryz.sizeOf40, v131 := Tryz.zeroValue40, t182 := Tryz.underlying218, a182 := Tryz.isAgg218,
 z182 := Tryz.sizeOf218, v182 := Tryz.zeroValue218, t183 := Tryz.underlying219, a183 := Tryz.isAgg219,
 z183 := Tryz.sizeOf219, v183 := Tryz.zeroValue219, t218 := Tryz.underlying233, a218 := Tryz.isAgg233,
 z218 := Tryz.sizeOf233, v218 := Tryz.zeroValue233, t222 := Tryz.underlying237, a222 := Tryz.isAgg237,
 z222 := Tryz.sizeOf237, v222 := Tryz.zeroValue237, t228 := Tryz.underlying239, a228 := Tryz.isAgg239,
 z228 := Tryz.sizeOf239, v228 := Tryz.zeroValue239, t229 := Tryz.underlying240, a229 := Tryz.isAgg240,
 z229 := Tryz.sizeOf240, v229 := Tryz.zeroValue240 }
theorem IC (blk off cap : Nat) (ss : List (List UInt8)) (w : World) (hH : Holds encStr w blk off ss.toArray) (hb : blk < w.heap.size) (hl : ss.length < 4611686018427387904) :
    Calls Tryz.prog 69 #[.slice (some ⟨blk, off, none⟩) ss.length cap] w fun e w' => e = .returned (.tuple #[]) /\ ∃ n os, w' = grow (putRow encStr (Sort.ahead w n) blk off (ss.mergeSort leB).toArray) os :=
 Any.slices_Sort_string (ρ := ba) OO blk off cap ss w hH hb hl
end Go.Proofs.YtdlppkhmmclipaaGreat
namespace Go.Proofs.YtdlppkhmmclipaaGreat.sxObj
open Go.Sx Go.RowKit Go.Proofs.YtdlppkhmmclipaaGreat
set_option linter.unusedVariables false
set_option linter.unusedSimpArgs false
set_option maxRecDepth 100000
theorem plain : Plain Tryz.prog := KA (by kernel_rfl)
theorem mixed : Tryz.prog.follows .mixedOrders = true := by kernel_rfl
theorem bk {m : Nat} (h : Nat.beq m 0 = true) : m = 0 := Nat.eq_of_beq_eq_true h
theorem xd {m : Nat} (h : Nat.beq m 1 = true) : m = 1 := Nat.eq_of_beq_eq_true h
theorem Oo (d : Dv) : ar d 0 = d.row.headD (.i 0) := by
 unfold ar cc row Dv.row; cases d.T with
 | nil => rfl
 | cons a l => cases a <;> rfl
section
variable {o : Env}
theorem hU {l : E} : ∀ e : Env, 0 <= ((aB l).den e).I := fun e => by
 show (0 : Int) <= (((l.den e).T.length : Nat) : Int); omega
theorem Li : E1 Tryz.prog AX (aB (.v 7104)) AL Ai := ⟨by kernel_rfl, by kernel_rfl, by kernel_rfl, rfl, rfl, by kernel_rfl, rfl, fun m h => bk h, fun m h => xd h, fun _ => rfl⟩
theorem I6 : dz Tryz.prog o kD 3 AX.cW :=
 Li.ok plain mixed (fun o _ _ => hU o) (fun _ _ _ => cu) (fun o _ _ hr _ => Fp hr) (fun o i _ _ hr _ _ => EE hr)
theorem Kn : l8.iJ Tryz.prog = some AJ := by kernel_rfl
theorem tf (hu : OU o) : eg Tryz.prog o kD l8.aS :=
 ct plain mixed (D := l8) Kn (fun e A he => br (c := ⟨[], [(kD, 3, AX.cW)]⟩) (by kernel_rfl) trivial ⟨I6, trivial⟩ A) (fun e he h => EF (hu.az he) h)
theorem IY : E1 Tryz.prog lH (aB (.v 7120)) wI vL := ⟨by kernel_rfl, by kernel_rfl, by kernel_rfl, rfl, rfl, by kernel_rfl, rfl, fun m h => bk h, fun m h => xd h, fun _ => rfl⟩
theorem Gn (hu : OU o) : dz Tryz.prog o ni 3 lH.cW :=
 IY.ok plain mixed (fun o _ _ => hU o) (fun e A he => br (c := ⟨[(kD, l8.aS)], []⟩) (by kernel_rfl) ⟨tf (hu.az he), trivial⟩ trivial A) (fun e he h hr _ => Dn (hu.az he) hr h) (fun e i he h hr _ hl => DE (hu.az he) hr h hl)
theorem JT : vt.iJ Tryz.prog = some Dh := by kernel_rfl
theorem Gi (hu : OU o) : eg Tryz.prog o ni vt.aS :=
 ct plain mixed (D := vt) JT (fun e A he => br (c := ⟨[], [(ni, 3, lH.cW)]⟩) (by kernel_rfl) trivial ⟨Gn (hu.az he), trivial⟩ A) (fun e he h => by simp only [Dh, af, au, and_true]; intro _; simp only [se])
theorem JI : E1 Tryz.prog vj (aB (cE x0 i0 4)) xK vM := ⟨by kernel_rfl, by kernel_rfl, by kernel_rfl, rfl, rfl, by kernel_rfl, rfl, fun m h => bk h, fun m h => xd h, fun _ => rfl⟩
theorem EL : dz Tryz.prog o gZ 9 vj.cW :=
 JI.ok plain mixed (fun o _ _ => hU o) (fun _ _ _ => cu) (fun o _ _ hr _ => CE hr) (fun o i _ _ hr _ _ => C4 hr)
theorem Jk : iY.iJ Tryz.prog = some xw := by kernel_rfl
theorem qO (hu : OU o) : eg Tryz.prog o gZ iY.aS :=
 ct plain mixed (D := iY) Jk (fun e A he => br (c := ⟨[], [(gZ, 9, vj.cW)]⟩) (by kernel_rfl) trivial ⟨EL, trivial⟩ A) (fun e he h => D6 (hu.az he) h)
theorem Rn : sg.iJ Tryz.prog = some E0 := by kernel_rfl
theorem xN (hu : OU o) : eg Tryz.prog o uB sg.aS := ct plain mixed (D := sg) Rn (fun _ _ _ => cu) (fun e he h => Io (hu.az he) h)
theorem K4 : qC.iJ Tryz.prog = some AI := by kernel_rfl
theorem zR (hu : OU o) : eg Tryz.prog o tM qC.aS :=
 ct plain mixed (D := qC) K4 (fun e A he => br (c := ⟨[(kD, l8.aS), (uB, sg.aS)], []⟩) (by kernel_rfl) ⟨tf (hu.az he), xN (hu.az he), trivial⟩ trivial A) (fun e he h => Fh)
theorem Jm : fj.iJ Tryz.prog = some w5 := by kernel_rfl
theorem kP (hu : OU o) : eg Tryz.prog o ic fj.aS := ct plain mixed (D := fj) Jm (fun _ _ _ => cu) (fun e he h => D9 (hu.az he) h)
theorem JK : gE Tryz.prog pE (.uf 104 Qr) zY := ⟨by kernel_rfl, by kernel_rfl, rfl, by kernel_rfl, rfl, fun m h => bk h, fun m h => bk h, fun ν => by cases ν with | zero => rfl | succ n => cases n <;> rfl⟩
theorem EB (hu : OU o) : dz Tryz.prog o ik 2 pE.cW :=
 JK.ok plain mixed (fun e he _ => by
  show 0 <= (e.uf 104 (Qr.den e)).I; rw [(hu.az he).BL]
  exact Int.natCast_nonneg _) (fun e A he => br (c := ⟨[(ic, fj.aS)], []⟩) (by kernel_rfl) ⟨kP (hu.az he), trivial⟩ trivial A) (fun e i he h hr hl => Em (hu.az he) hr h hl)
theorem Js : lO.iJ Tryz.prog = some vK := by kernel_rfl
theorem q9 (hu : OU o) : eg Tryz.prog o ik lO.aS :=
 ct plain mixed (D := lO) Js (fun e A he => br (c := ⟨[], [(ik, 2, pE.cW)]⟩) (by kernel_rfl) trivial ⟨EB (hu.az he), trivial⟩ A) (fun e he h => Ec (hu.az he))
theorem DG : gI.iJ Tryz.prog = some qY := by kernel_rfl
theorem sL (hu : OU o) : eg Tryz.prog o mC gI.aS :=
 ct plain mixed (D := gI) DG (fun e A he => br (c := ⟨[(ic, fj.aS), (ik, lO.aS)], []⟩) (by kernel_rfl) ⟨kP (hu.az he), q9 (hu.az he), trivial⟩ trivial A) (fun e he h => Im (hu.az he) h)
theorem vR : fU.iJ Tryz.prog = some l6 := by kernel_rfl
theorem uK (hu : OU o) : eg Tryz.prog o nA fU.aS :=
 ct plain mixed (D := fU) vR (fun e A he => br (c := ⟨[(ik, lO.aS)], []⟩) (by kernel_rfl) ⟨q9 (hu.az he), trivial⟩ trivial A) (fun e he h => AY (hu.az he) h)
theorem FA : E1 Tryz.prog je (aB (.v 7195)) tL tG := ⟨by kernel_rfl, by kernel_rfl, by kernel_rfl, rfl, rfl, by kernel_rfl, rfl, fun m h => bk h, fun m h => xd h, fun _ => rfl⟩
theorem DO (hu : OU o) : dz Tryz.prog o la 3 je.cW :=
 FA.ok plain mixed (fun o _ _ => hU o) (fun e A he => br (c := ⟨[(ic, fj.aS)], []⟩) (by kernel_rfl) ⟨kP (hu.az he), trivial⟩ trivial A) (fun e he h hr _ => Bj (hu.az he) hr h) (fun e i he h hr _ hl => BE (hu.az he) hr h hl)
theorem FO : rT.iJ Tryz.prog = some zB := by kernel_rfl
theorem CG (hu : OU o) : eg Tryz.prog o la rT.aS :=
 ct plain mixed (D := rT) FO (fun e A he => br (c := ⟨[], [(la, 3, je.cW)]⟩) (by kernel_rfl) trivial ⟨DO (hu.az he), trivial⟩ A) (fun e he h => by simp only [zB, af, au, and_true]; intro _; simp only [se])
theorem VV : (Ll Dm).iJ Tryz.prog = some [([], [])] := by kernel_rfl
theorem C6 (hu : OU o) : eg Tryz.prog o Dm (y8 106) := O0 plain mixed VV (fun blk off cap ss w a b c => IC blk off cap ss w a b c) (fun d => by rw [hu.Ma d, Oo])
theorem Oa : GV.iJ Tryz.prog = some Gg := by kernel_rfl
theorem MO (hu : OU o) : eg Tryz.prog o NI GV.aS :=
 ct plain mixed (D := GV) Oa (fun e A he => br (c := ⟨[(Dm, y8 106)], []⟩) (by kernel_rfl) ⟨C6 (hu.az he), trivial⟩ trivial A) (fun e he h => Ix (hu.az he))
end
def uV : SV := .fn (.func Ow) [] []
def iS (e : E) : SV := .int .i64 e
def mb (l : E) : E × Bool := (.o2 .le (aB l) (.il 1000000), true)
def uR (l : E) : aa := [(.uf 112 (pk [l]), true), (u9 l, true), mb l]
def cP (a b : E) : E × Bool := (.o2 .le a b, true)
def sM (a b : E) : E × Bool := (.o2 .lt a b, true)
def O3 : cA where
 f := Ow
 args := [.agg (qU (vE 7260)), .agg (qU (vE 7270))]
 params := jX 7260 7268 ++ jX 7270 7278
 aU := [(Fq (vE 7260), true), (Fq (vE 7270), true), (.v 7266, false), (.v 7276, false), (.o2 .slt (te (vE 7260)) (te (vE 7270)), false)]
 app := fun _ => true
 bp := [(.o2 .slt (te (vE 7270)) (te (vE 7260)), 1), (.bl true, 0)]
 kind := fun r => match r with | .int _ (.il 1) => some 1 | .int _ (.il 0) => some 0 | _ => none
 out := fun n => match n with | 0 => iS (.il 0) | _ => iS (.il 1)
 X := (⟨[(tM, qC.aS)], []⟩ : gW).x
 fuel := 300; np := 80
def ID : gW := ⟨[(Ow, O3.aS)], []⟩
def Mp : aa := uR (.v 7200) ++ [cP (.il 0) (.v 7201), cP (.v 7201) (.v 7202), cP (.v 7202) (aB (.v 7200))]
def Mo : ak where
 f := jd; key := 1; N := 53; r := 2110; base := 115000
 js := [9] ++ jX 12 53
 hd := fun _ => ⟨[(0, .bR dp (.v 7200)), (1, iS (.v 7201)), (2, iS (.v 7202)), (3, uV), (8, iS (.o2 .add (.o2 .add (.v 7201) (.il 1)) (.v 2110)))], [], 9,
  cP (.il 0) (.v 2110) :: cP (.v 2110) (.o2 .sub (.v 7202) (.v 7201)) :: Mp⟩
 aU := fun _ => Mp
 app := fun _ => true
 mS := fun m => Nat.beq m 0
 dI := fun _ => .ret 0
 ll := fun m => Nat.beq m 0
 mf := fun _ => []
 hx := fun _ => ⟨[(0, .top), (1, .top), (2, .top), (3, .top), (8, .top)], [], 9, []⟩
 sP := fun _ _ => .ret 0
 nS := fun _ => .exit 0
 bp := [(.bl true, 0)]
 fixed := []
 lt := .o2 .lt (.v 2110) (.o2 .sub (.v 7202) (.v 7201))
 X := ID.x
 fuel := 400; np := 80
 params := [7200, 7201, 7202]
def FM : cA where
 f := jd
 args := [.bR dp (.v 7205), iS (.v 7206), iS (.v 7207), uV]
 params := [7205, 7206, 7207]
 aU := uR (.v 7205) ++ [cP (.il 0) (.v 7206), cP (.v 7206) (.v 7207), cP (.v 7207) (aB (.v 7205))]
 app := fun _ => true
 bp := [(.bl true, 0)]
 kind := fun _ => some 0
 out := fun _ => .fm []
 X := (⟨[], [(jd, 1, Mo.cW)]⟩ : gW).x
 fuel := 400; np := 80
def dnA (r : E) : E := .uf 121 (pk [.v 7212, .v 7213, r])
def ND (l a m b : Nat) : aa := uR (.v l) ++ [cP (.il 0) (.v a), sM (.v a) (.v m), sM (.v m) (.v b), cP (.v b) (aB (.v l))]
def Ml (l a m : Nat) : aa := uR (.v l) ++ [cP (.il 0) (.v a), sM (.v a) (.v m), sM (.v m) (aB (.v l))]
def Qn : ak where
 f := cH; key := 3; N := 220; r := 2111; base := 116000
 js := [12] ++ jX 31 54
 hd := fun _ => ⟨[(0, .bR dp (.v 7210)), (1, iS (.v 7211)), (4, uV), (10, iS (.v 7212)), (11, iS (dnA (.v 2111)))], [], 9,
  cP (.il 0) (.v 2111) :: cP (.v 2111) (.o2 .sub (.v 7213) (.v 7212)) :: ND 7210 7211 7212 7213⟩
 aU := fun _ => ND 7210 7211 7212 7213
 app := fun _ => true
 mS := fun m => Nat.beq m 0
 dI := fun _ => .ret 0
 ll := fun m => Nat.beq m 0
 mf := fun _ => []
 hx := fun _ => ⟨[(0, .bR dp (.v 7210)), (1, iS (.v 7211)), (4, .top), (10, iS (.v 7212)), (11, .top)], [], 9, []⟩
 sP := fun _ _ => .ret 0
 nS := fun _ => .exit 0
 bp := [(.bl true, 0)]
 fixed := []
 lt := .o2 .lt (.v 2111) (.o2 .sub (.v 7213) (.v 7212))
 X := ID.x
 fuel := 400; np := 80
 params := [7210, 7211, 7212, 7213]
 pins := fun sl => match nth sl 11 with | some (.int _ e) => [(7213, e)] | _ => []
def upA (r : E) : E := .uf 122 (pk [.v 7216, .v 7217, r])
def Qe : ak where
 f := cH; key := 15; N := 220; r := 2112; base := 117000
 js := [16] ++ jX 83 107
 hd := fun _ => ⟨[(0, .bR dp (.v 7215)), (2, iS (.v 7217)), (4, uV), (14, iS (upA (.v 2112))), (15, iS (.v 7217))], [], 9,
  cP (.il 0) (.v 2112) :: cP (.v 2112) (.o2 .sub (.v 7217) (.v 7216)) :: Ml 7215 7216 7217⟩
 aU := fun _ => Ml 7215 7216 7217
 app := fun _ => true
 mS := fun m => Nat.beq m 0
 dI := fun _ => .ret 0
 ll := fun m => Nat.beq m 0
 mf := fun _ => []
 hx := fun _ => ⟨[(0, .bR dp (.v 7215)), (2, iS (.v 7217)), (4, .top), (14, iS (.v 7217)), (15, .top)], [], 9, []⟩
 sP := fun _ _ => .ret 0
 nS := fun _ => .exit 4
 bp := [(.bl true, 0)]
 fixed := []
 lt := .o2 .lt (.v 2112) (.o2 .sub (.v 7217) (.v 7216))
 X := ID.x
 fuel := 400; np := 80
 params := [7215, 7216, 7217]
 pins := fun sl => match nth sl 14 with | some (.int _ e) => [(7216, e)] | _ => []
def up3 (r : E) : E := .uf 122 (pk [.v 7221, .v 7222, r])
def Ti : aa := uR (.v 7220) ++ [cP (.il 0) (.v 7221), cP (.v 7221) (.v 7222), sM (.o2 .sub (.v 7223) (.v 7221)) (aB (.v 7220)), cP (.o2 .mul (.il 2) (.v 7222)) (.o2 .add (.v 7223) (.il 1))]
def OP : ak where
 f := cH; key := 33; N := 220; r := 2113; base := 118000
 js := [23] ++ jX 149 175
 hd := fun _ => ⟨[(0, .bR dp (.v 7220)), (4, uV), (20, iS (up3 (.v 2113))), (21, iS (.v 7222)), (22, iS (.v 7223))], [], 9,
  cP (.il 0) (.v 2113) :: cP (.v 2113) (.o2 .sub (.v 7222) (.v 7221)) :: Ti⟩
 aU := fun _ => Ti
 app := fun _ => true
 mS := fun m => Nat.beq m 0
 dI := fun _ => .ret 0
 ll := fun m => Nat.beq m 0
 mf := fun _ => []
 hx := fun _ => ⟨[(0, .bR dp (.v 7220)), (4, uV), (20, iS (.v 7222)), (21, .top), (22, iS (.v 7223))], [], 9, []⟩
 sP := fun _ _ => .ret 0
 nS := fun _ => .exit 8
 bp := [(.bl true, 0)]
 fixed := []
 lt := .o2 .lt (.v 2113) (.o2 .sub (.v 7222) (.v 7221))
 X := ID.x
 fuel := 400; np := 80
 params := [7220, 7221, 7222, 7223]
 pins := fun sl => match nth sl 20 with | some (.int _ e) => [(7221, e)] | _ => []
def CZ : cA where
 f := cH
 args := [.bR dp (.v 7225), iS (.v 7226), iS (.v 7227), iS (.v 7228), uV]
 params := [7225, 7226, 7227, 7228]
 aU := ND 7225 7226 7227 7228
 app := fun args => match args with | [_, .int _ (.v 7226), .int _ (.v 7227), .int _ (.v 7228), _] => false | _ => true
 bp := [(.bl true, 0)]
 kind := fun _ => some 0
 out := fun _ => .fm []
 X := di.none
 fuel := 600; np := 80
def Db : E := .o2 .sub (.v 7228) (.v 7226)
def KR (args : List SV) (nx : Nat) : Option (Prog (SV × Nat)) := some (.fail "never")
def Ua : gW := ⟨[(G4, KR), (cH, (cA.Bl CZ 7229 Db).aS)], [(cH, 3, Qn.cW), (cH, 15, Qe.cW), (cH, 33, OP.cW)]⟩
def Z3 : cA := cA.GI CZ 7229 Db Ua.x.vP
def Dx (l n : Nat) : aa := uR (.v l) ++ [(.o2 .aN (.v n) (aB (.v l)), true)]
def Fv (e : E) : E := .o2 .mul (.il 20) e
def Nn : ak where
 f := e8; key := 2; N := 63; r := 2114; base := 119000
 js := jX 11 23
 hd := fun _ => ⟨[(0, .bR dp (.v 7230)), (1, iS (.v 7231)), (2, uV), (6, iS (.il 20)), (7, iS (Fv (.v 2114))), (8, iS (.o2 .add (Fv (.v 2114)) (.il 20)))], [], 9,
  cP (.il 0) (.v 2114) :: cP (.v 2114) (.o2 .quo (.v 7231) (.il 20)) :: Dx 7230 7231⟩
 aU := fun _ => Dx 7230 7231
 app := fun _ => true
 mS := fun m => Nat.beq m 0
 dI := fun _ => .ret 0
 ll := fun m => Nat.beq m 0
 mf := fun _ => []
 hx := fun _ => ⟨[(0, .bR dp (.v 7230)), (1, iS (.v 7231)), (2, uV), (6, iS (.il 20)), (7, iS (Fv (.o2 .quo (.v 7231) (.il 20)))), (8, .top)], [], 9, []⟩
 sP := fun _ _ => .ret 0
 nS := fun _ => .exit 0
 bp := [(.bl true, 0)]
 fixed := []
 lt := .o2 .lt (.v 2114) (.o2 .quo (.v 7231) (.il 20))
 X := (⟨[(jd, FM.aS)], []⟩ : gW).x
 fuel := 400; np := 80
 params := [7230, 7231]
def tw (e : E) : E := .o2 .mul (.o2 .mul (.il 2) (.v 7236)) e
def KE : aa := Dx 7234 7235 ++ [cP (.il 20) (.v 7236), sM (.v 7236) (.v 7235)]
def E8 : E := .o2 .quo (.v 7235) (.o2 .mul (.il 2) (.v 7236))
def NJ : ak where
 f := e8; key := 9; N := 63; r := 2115; base := 120000
 js := jX 33 49
 hd := fun _ => ⟨[(0, .bR dp (.v 7234)), (1, iS (.v 7235)), (2, uV), (6, iS (.v 7236)), (7, iS (tw (.v 2115))), (8, iS (.o2 .add (tw (.v 2115)) (.o2 .mul (.il 2) (.v 7236))))], [], 9,
  cP (.il 0) (.v 2115) :: cP (.v 2115) E8 :: KE⟩
 aU := fun _ => KE
 app := fun _ => true
 mS := fun m => Nat.beq m 0
 dI := fun _ => .ret 0
 ll := fun m => Nat.beq m 0
 mf := fun _ => []
 hx := fun _ => ⟨[(0, .bR dp (.v 7234)), (1, iS (.v 7235)), (2, uV), (6, iS (.v 7236)), (7, iS (tw E8)), (8, .top)], [], 9, []⟩
 sP := fun _ _ => .ret 0
 nS := fun _ => .exit 4
 bp := [(.bl true, 0)]
 fixed := []
 lt := .o2 .lt (.v 2115) E8
 X := (⟨[(cH, CZ.aS)], []⟩ : gW).x
 fuel := 400; np := 80
 params := [7234, 7235, 7236]
def bsE (r : E) : E := .uf 123 (pk [r])
def Ny : ak where
 f := e8; key := 7; N := 63; r := 2116; base := 121000
 js := [7, 8, 9] ++ jX 28 63
 hd := fun _ => ⟨[(0, .bR dp (.v 7240)), (1, iS (.v 7241)), (2, uV), (6, iS (bsE (.v 2116)))], [], 9,
  cP (.il 0) (.v 2116) :: cP (.v 2116) (.v 7241) :: Dx 7240 7241⟩
 aU := fun _ => Dx 7240 7241
 app := fun _ => true
 mS := fun m => Nat.beq m 0
 dI := fun _ => .ret 0
 ll := fun m => Nat.beq m 0
 mf := fun _ => []
 hx := fun _ => ⟨[(0, .top), (1, .top), (2, .top), (6, .top)], [], 9, []⟩
 sP := fun _ _ => .ret 0
 nS := fun _ => .exit 2
 bp := [(.bl true, 0)]
 fixed := []
 lt := .o2 .lt (.v 2116) (.v 7241)
 X := (⟨[(cH, CZ.aS)], [(e8, 9, NJ.cW)]⟩ : gW).x
 fuel := 400; np := 80
 params := [7240, 7241]
def pH : cA where
 f := vw
 args := [.bR dp (.v 7245)]
 params := [7245]
 aU := uR (.v 7245)
 app := fun _ => true
 bp := [(.bl true, 0)]
 kind := fun _ => some 0
 out := fun _ => .bR dp (.v 7245)
 X := (⟨[(jd, FM.aS)], [(e8, 2, Nn.cW), (e8, 7, Ny.cW)]⟩ : gW).x
 fuel := 400; np := 80
def okA (l : E) : E := .uf 113 (pk [l])
def jB : ak := AG kZ 3 21 2117 (jX 5 19) [(0, .bR aK (.v 7250))] 3 4 qo dp (.uf 102 (pk [.v 7250])) (aB (.v 7250)) [(okA (.v 7250), true), mb (.v 7250)] [7250] (⟨[(gZ, iY.aS)], []⟩ : gW).x 0
def my : cA where
 f := kZ
 args := [.bR aK (.v 7251)]
 params := [7251]
 aU := [(okA (.v 7251), true), mb (.v 7251)]
 app := fun _ => true
 bp := [(.bl true, 0)]
 kind := fun _ => some 0
 out := fun _ => .bR dp (.uf 102 (pk [.v 7251]))
 X := (⟨[(vw, pH.aS)], [(kZ, 3, jB.cW)]⟩ : gW).x
 fuel := 400; np := 80
end Go.Proofs.YtdlppkhmmclipaaGreat.sxObj
namespace Go.Proofs.YtdlppkhmmclipaaGreat.sxObj
open Go.Sx
set_option linter.unusedVariables false
set_option maxRecDepth 100000
abbrev fy : E := .il 0
abbrev oc1 : E := .o2 .slt (.uf 100 (eP (.v 7270) (eP (.v 7271) fy))) (.uf 100 (eP (.v 7260) (eP (.v 7261) fy)))
def WE : List (aa × List Ob) :=
 [(fT oc1 [], []),
  (fF oc1 [], [])]
abbrev GH : E := .v 7200
abbrev yI : E := .il 1
abbrev H6 : E := .o2 .add (.o2 .add (.v 7201) yI) (.v 2110)
abbrev Vn : E := .o2 .sub H6 yI
abbrev oc6 : E := .uf 100 (eP (eC 0 GH Vn) (eP (eC 1 GH Vn) fy))
abbrev oc7 : E := .uf 100 (eP (eC 0 GH H6) (eP (eC 1 GH H6) fy))
abbrev oc8 : aa := fT (.o2 .lt H6 (.v 7202)) []
abbrev oc9 : aa := fT (.o2 .lt (.v 7201) H6) oc8
abbrev adX : List Ob := oO (.o2 .aN (.o2 .add H6 yI) (.o2 .add (.o2 .add (.v 7201) yI) (.o2 .add (.v 2110) yI))) []
abbrev Zu : List Ob := oO (.o2 .lt (.v 2110) (.o2 .sub (.v 7202) (.v 7201))) (oO (.o1 .not (.o2 .slt oc7 oc6)) (oO (.o1 .not (eC 6 GH Vn)) (oO (.o1 .not (eC 6 GH H6)) (oO (.uf 110 (eP (eC 0 GH Vn) (eP (eC 1 GH Vn) (eP (eC 4 GH Vn) fy)))) (oO (.uf 110 (eP (eC 0 GH H6) (eP (eC 1 GH H6) (eP (eC 4 GH H6) fy)))) (oO (.o2 .lt Vn (.o1 .ab GH)) (oO (.o2 .lt H6 (.o1 .ab GH)) adX)))))))
def Xb : List (aa × List Ob) :=
 [(fT (.o2 .slt oc6 oc7) oc9, Zu),
  (fF (.o2 .slt oc6 oc7) oc9, Zu),
  (fF (.o2 .lt (.v 7201) H6) oc8, oO (.o2 .lt (.v 2110) (.o2 .sub (.v 7202) (.v 7201))) adX),
  (fF (.o2 .lt H6 (.v 7202)) [], [])]
def S5 : List (aa × List Ob) :=
 [([], [])]
abbrev uJ : E := .v 7210
abbrev acC : E := eC 0 uJ (.v 7211)
abbrev adP : E := eC 1 uJ (.v 7211)
abbrev W5 : E := .uf 100 (eP acC (eP adP fy))
abbrev VF : E := .uf 121 (eP (.v 7212) (eP (.v 7213) (eP (.v 2111) fy)))
abbrev UF : E := .o2 .add (.v 7212) VF
abbrev xW : E := .o2 .quo UF (.il 2)
abbrev Wv : E := .uf 100 (eP (eC 0 uJ xW) (eP (eC 1 uJ xW) fy))
abbrev Zg : aa := fT (.o2 .lt (.v 7212) VF) []
abbrev iN : E := .il 9223372036854775807
abbrev jO : E := .il (-9223372036854775808)
abbrev XJ : E := .il 18446744073709551615
abbrev aai : List Ob := oO (.o2 .lt (.v 2111) (.o2 .sub (.v 7213) (.v 7212))) (oO (.o1 .not (.o2 .slt Wv W5)) (oO (.o1 .not (eC 6 uJ (.v 7211))) (oO (.o1 .not (eC 6 uJ xW)) (oO (.uf 110 (eP acC (eP adP (eP (eC 4 uJ (.v 7211)) fy)))) (oO (.uf 110 (eP (eC 0 uJ xW) (eP (eC 1 uJ xW) (eP (eC 4 uJ xW) fy)))) (oO (.o2 .lt (.v 7211) (.o1 .ab uJ)) (oO (.o2 .lt xW (.o1 .ab uJ)) (oO (.o2 .le fy xW) (oO (.o2 .le xW iN) (oO (.o2 .le jO xW) (oO (.o2 .le UF XJ) (oO (.o2 .le UF iN) (oO (.o2 .aN xW (.uf 121 (eP (.v 7212) (eP (.v 7213) (eP (.o2 .add (.v 2111) yI) fy))))) [])))))))))))))
def Vo : List (aa × List Ob) :=
 [(fT (.o2 .slt W5 Wv) Zg, aai),
  (fF (.o2 .slt W5 Wv) Zg, aai),
  (fF (.o2 .lt (.v 7212) VF) [], [])]
abbrev td : E := .v 7215
abbrev tF : E := .v 7217
abbrev Om : E := .uf 122 (eP (.v 7216) (eP tF (eP (.v 2112) fy)))
abbrev QN : E := .o2 .add Om tF
abbrev xB : E := .o2 .quo QN (.il 2)
abbrev WH : E := .uf 100 (eP (eC 0 td xB) (eP (eC 1 td xB) fy))
abbrev W6 : E := .uf 100 (eP (eC 0 td tF) (eP (eC 1 td tF) fy))
abbrev abI : aa := fT (.o2 .lt Om tF) []
abbrev TV : E := .o2 .add xB yI
abbrev acW : List Ob := oO (.o2 .lt (.v 2112) (.o2 .sub tF (.v 7216))) (oO (.o2 .le TV iN) (oO (.o2 .le jO TV) (oO (.o1 .not (.o2 .slt W6 WH)) (oO (.o1 .not (eC 6 td xB)) (oO (.o1 .not (eC 6 td tF)) (oO (.uf 110 (eP (eC 0 td xB) (eP (eC 1 td xB) (eP (eC 4 td xB) fy)))) (oO (.uf 110 (eP (eC 0 td tF) (eP (eC 1 td tF) (eP (eC 4 td tF) fy)))) (oO (.o2 .lt xB (.o1 .ab td)) (oO (.o2 .le fy xB) (oO (.o2 .le xB iN) (oO (.o2 .le jO xB) (oO (.o2 .le fy QN) (oO (.o2 .le fy QN) (oO (.o2 .le jO QN) (oO (.o2 .aN TV (.uf 122 (eP (.v 7216) (eP tF (eP (.o2 .add (.v 2112) yI) fy))))) [])))))))))))))))
def V1 : List (aa × List Ob) :=
 [(fT (.o2 .slt WH W6) abI, acW),
  (fF (.o2 .slt WH W6) abI, acW),
  (fF (.o2 .lt Om tF) [], oO (.o2 .aN Om tF) [])]
abbrev rL : E := .v 7220
abbrev Fe : E := .v 7222
abbrev Qq : E := .uf 122 (eP (.v 7221) (eP Fe (eP (.v 2113) fy)))
abbrev Jh : E := .o2 .add Qq Fe
abbrev uT : E := .o2 .quo Jh (.il 2)
abbrev Xs : E := .uf 100 (eP (eC 0 rL uT) (eP (eC 1 rL uT) fy))
abbrev yO : E := .o2 .sub (.v 7223) uT
abbrev UC : E := .uf 100 (eP (eC 0 rL yO) (eP (eC 1 rL yO) fy))
abbrev aa1 : aa := fT (.o2 .lt Qq Fe) []
abbrev Wt : E := .o2 .add uT yI
abbrev aeK : List Ob := oO (.o2 .lt (.v 2113) (.o2 .sub Fe (.v 7221))) (oO (.o2 .le Wt iN) (oO (.o2 .le jO Wt) (oO (.o1 .not (.o2 .slt UC Xs)) (oO (.o1 .not (eC 6 rL uT)) (oO (.o1 .not (eC 6 rL yO)) (oO (.uf 110 (eP (eC 0 rL uT) (eP (eC 1 rL uT) (eP (eC 4 rL uT) fy)))) (oO (.uf 110 (eP (eC 0 rL yO) (eP (eC 1 rL yO) (eP (eC 4 rL yO) fy)))) (oO (.o2 .lt uT (.o1 .ab rL)) (oO (.o2 .le fy uT) (oO (.o2 .lt yO (.o1 .ab rL)) (oO (.o2 .le fy yO) (oO (.o2 .le yO iN) (oO (.o2 .le jO yO) (oO (.o2 .le uT iN) (oO (.o2 .le jO uT) (oO (.o2 .le fy Jh) (oO (.o2 .le Jh XJ) (oO (.o2 .le fy Jh) (oO (.o2 .le Jh iN) (oO (.o2 .le jO Jh) (oO (.o2 .aN Wt (.uf 122 (eP (.v 7221) (eP Fe (eP (.o2 .add (.v 2113) yI) fy))))) [])))))))))))))))))))))
def V2 : List (aa × List Ob) :=
 [(fT (.o2 .slt Xs UC) aa1, aeK),
  (fF (.o2 .slt Xs UC) aa1, aeK),
  (fF (.o2 .lt Qq Fe) [], oO (.o2 .aN Qq Fe) [])]
abbrev m3 : E := .v 7226
abbrev mc : E := .v 7227
abbrev adD : E := .o2 .lt m3 (.o2 .sub mc yI)
abbrev Q8 : E := .o2 .aN (.o2 .sub mc m3) yI
abbrev o9 : E := .v 7228
abbrev Gd : E := eP fy fy
abbrev aej : E := .o2 .aN (.o2 .sub o9 mc) yI
abbrev DA : E := .o1 .ab (.v 7225)
abbrev acb : List Ob := oO (.o2 .le jO (.o2 .sub mc m3)) []
abbrev YJ : E := .o2 .add m3 o9
abbrev fD : E := .o2 .quo YJ (.il 2)
abbrev Cv : E := .o2 .add fD mc
abbrev uO : E := .o2 .sub Cv fD
abbrev abO : aa := fF aej (fF Q8 [])
abbrev aba : aa := fT (.o2 .lt fD mc) abO
abbrev ab6 : aa := fF (.o2 .lt mc uO) aba
abbrev adU : aa := fT (.o2 .lt m3 fD) ab6
abbrev acS : aa := fT (.o2 .lt fD uO) adU
abbrev sT : E := .o2 .sub Cv o9
abbrev qF : E := .o2 .sub Cv yI
abbrev Xz : List Ob := oO (.o2 .le YJ XJ) (oO (.o2 .le YJ iN) acb)
abbrev acR : List Ob := oO (.o2 .le Cv iN) Xz
abbrev Vu : List Ob := oO (.o2 .aN sT (.uf 122 (eP sT (eP fD Gd)))) (oO (.o2 .le (.o2 .mul (.il 2) fD) (.o2 .add qF yI)) (oO (.o2 .lt (.o2 .sub qF sT) DA) (oO (.o2 .le sT fD) (oO (.o2 .le fy sT) (oO (.o2 .le qF iN) (oO (.o2 .le sT iN) acR))))))
abbrev aeP : aa := fF (.o2 .lt m3 fD) ab6
abbrev aeF : aa := fT (.o2 .lt fD uO) aeP
abbrev aaq : List Ob := oO (.o2 .aN sT (.uf 122 (eP sT (eP fD Gd)))) (oO (.o2 .le (.o2 .mul (.il 2) fD) (.o2 .add qF yI)) (oO (.o2 .lt (.o2 .sub qF sT) DA) (oO (.o2 .le sT fD) (oO (.o2 .le fy sT) (oO (.o2 .le qF iN) (oO (.o2 .le jO qF) (oO (.o2 .le sT iN) (oO (.o2 .le jO sT) (oO (.o2 .le Cv iN) (oO (.o2 .le jO Cv) (oO (.o2 .le jO fD) Xz)))))))))))
abbrev acw : List Ob := oO (.o2 .le jO uO) aaq
abbrev rP : E := .o2 .sub Cv mc
abbrev ae0 : aa := fF (.o2 .lt fD mc) abO
abbrev adQ : aa := fT (.o2 .lt mc fD) ae0
abbrev abW : aa := fT (.o2 .lt fD rP) adQ
abbrev Pj : List Ob := oO (.o2 .aN m3 (.uf 122 (eP m3 (eP mc Gd)))) (oO (.o2 .le (.o2 .mul (.il 2) mc) (.o2 .add qF yI)) (oO (.o2 .lt (.o2 .sub qF m3) DA) (oO (.o2 .le m3 mc) (oO (.o2 .le qF iN) (oO (.o2 .le jO qF) acR)))))
abbrev aaP : List Ob := oO (.o2 .aN m3 (.uf 122 (eP m3 (eP mc Gd)))) (oO (.o2 .le (.o2 .mul (.il 2) mc) (.o2 .add qF yI)) (oO (.o2 .lt (.o2 .sub qF m3) DA) (oO (.o2 .le m3 mc) (oO (.o2 .le qF iN) (oO (.o2 .le jO qF) (oO (.o2 .le Cv iN) (oO (.o2 .le fD iN) Xz)))))))
abbrev adp : aa := fF (.o2 .lt mc fD) ae0
abbrev abd : aa := fT (.o2 .lt fD rP) adp
def XF : List (aa × List Ob) :=
 [(fT adD (fT Q8 []), oO (.bl false) []),
  (fF adD (fT Q8 []), oO (.o2 .aN o9 (.uf 121 (eP mc (eP o9 Gd)))) []),
  (fT aej (fF Q8 []), oO (.o2 .aN m3 (.uf 122 (eP m3 (eP mc Gd)))) (oO (.o2 .lt mc DA) acb)),
  (fT (.o2 .lt mc uO) aba, oO (.bl false) []),
  (fT (.o2 .lt uO o9) acS, oO (.o2 .lt (.o2 .sub o9 fD) (.v 7229)) Vu),
  (fF (.o2 .lt uO o9) acS, Vu),
  (fF (.o2 .lt fD uO) adU, oO (.o2 .le jO uO) Vu),
  (fT (.o2 .lt uO o9) aeF, oO (.o2 .le fy fD) (oO (.o2 .lt (.o2 .sub o9 fD) (.v 7229)) acw)),
  (fF (.o2 .lt uO o9) aeF, aaq),
  (fF (.o2 .lt fD uO) aeP, acw),
  (fT (.o2 .lt rP o9) abW, oO (.o2 .lt (.o2 .sub o9 fD) (.v 7229)) (oO (.o2 .le fD DA) (oO (.o2 .lt (.o2 .sub fD m3) (.v 7229)) Pj))),
  (fF (.o2 .lt rP o9) abW, oO (.o2 .le fD DA) (oO (.o2 .lt (.o2 .sub fD m3) (.v 7229)) (oO (.o2 .le rP iN) aaP))),
  (fF (.o2 .lt fD rP) adQ, oO (.o2 .le fD DA) (oO (.o2 .lt (.o2 .sub fD m3) (.v 7229)) (oO (.o2 .le rP iN) (oO (.o2 .le jO rP) aaP)))),
  (fT (.o2 .lt rP o9) abd, oO (.o2 .lt (.o2 .sub o9 fD) (.v 7229)) Pj),
  (fF (.o2 .lt rP o9) abd, oO (.o2 .le rP iN) Pj),
  (fF (.o2 .lt fD rP) adp, oO (.o2 .le rP iN) (oO (.o2 .le jO rP) Pj))]
abbrev vS : E := .il 20
abbrev LP : E := .o2 .mul vS (.v 2114)
abbrev Nz : E := .o2 .add LP vS
abbrev ZA : E := .o2 .mul vS (.o2 .add (.v 2114) yI)
def XC : List (aa × List Ob) :=
 [(fT (.o2 .le Nz (.v 7231)) [], oO (.o2 .lt (.v 2114) (.o2 .quo (.v 7231) vS)) (oO (.o2 .le (.o2 .add LP (.il 40)) iN) (oO (.o2 .le Nz (.o1 .ab (.v 7230))) (oO (.o2 .le LP Nz) (oO (.o2 .aN Nz ZA) (oO (.o2 .aN (.o2 .add LP (.il 40)) (.o2 .add ZA vS)) [])))))),
  (fF (.o2 .le Nz (.v 7231)) [], oO (.o2 .aN LP (.o2 .mul vS (.o2 .quo (.v 7231) vS))) [])]
abbrev D0 : E := .uf 123 (eP (.v 2116) fy)
abbrev Ei : E := .o2 .mul (.il 2) D0
abbrev U9 : E := .o2 .mul Ei (.o2 .quo (.v 7241) Ei)
abbrev M3 : E := .o2 .add U9 D0
abbrev acq : aa := fT (.o2 .lt D0 (.v 7241)) []
abbrev ad4 : List Ob := oO (.o2 .aN Ei (.o2 .add (.o2 .mul Ei fy) Ei)) (oO (.o2 .aN fy (.o2 .mul Ei fy)) (oO (.o2 .le vS D0) (oO (.o2 .le jO Ei) (oO (.o2 .aN (.o2 .mul D0 (.il 2)) (.uf 123 (eP (.o2 .add (.v 2116) yI) fy))) []))))
def V9 : List (aa × List Ob) :=
 [(fT (.o2 .lt M3 (.v 7241)) acq, oO (.o2 .lt (.v 2116) (.v 7241)) (oO (.o2 .le jO (.o2 .mul D0 (.il 2))) (oO (.o2 .le (.v 7241) (.o1 .ab (.v 7240))) (oO (.o2 .lt U9 M3) (oO (.o2 .le fy U9) (oO (.o2 .le jO M3) ad4)))))),
  (fF (.o2 .lt M3 (.v 7241)) acq, oO (.o2 .lt (.v 2116) (.v 7241)) (oO (.o2 .le jO (.o2 .mul D0 (.il 2))) (oO (.o2 .le M3 iN) ad4))),
  (fF (.o2 .lt D0 (.v 7241)) [], [])]
abbrev Ds : E := .o2 .mul (.il 2) (.v 7236)
abbrev LY : E := .o2 .mul Ds (.v 2115)
abbrev IT : E := .o2 .add LY Ds
abbrev UI : E := .o2 .add IT Ds
abbrev Pg : E := .o2 .add LY (.v 7236)
abbrev aa5 : E := .o2 .mul Ds (.o2 .add (.v 2115) yI)
def V6 : List (aa × List Ob) :=
 [(fT (.o2 .le IT (.v 7235)) [], oO (.o2 .lt (.v 2115) (.o2 .quo (.v 7235) Ds)) (oO (.o2 .le UI iN) (oO (.o2 .le jO UI) (oO (.o2 .le IT (.o1 .ab (.v 7234))) (oO (.o2 .lt Pg IT) (oO (.o2 .lt LY Pg) (oO (.o2 .le fy LY) (oO (.o2 .le Pg iN) (oO (.o2 .le jO Pg) (oO (.o2 .aN IT aa5) (oO (.o2 .aN UI (.o2 .add aa5 Ds)) []))))))))))),
  (fF (.o2 .le IT (.v 7235)) [], oO (.o2 .aN LY (.o2 .mul Ds (.o2 .quo (.v 7235) Ds))) [])]
abbrev adZ : E := .o2 .mul vS (.o2 .quo (.o1 .ab (.v 7245)) vS)
def Bw : List (aa × List Ob) :=
 [([], oO (.o2 .aN vS (.uf 123 Gd)) (oO (.o2 .le adZ (.o1 .ab (.v 7245))) (oO (.o2 .le fy adZ) [])))]
abbrev uW : E := .v 2117
abbrev PX : E := .o2 .lt uW (.o1 .ab (.v 7250))
abbrev mz : E := eC 0 (.v 7250) uW
abbrev HJ : E := eC 0 mz fy
abbrev H4 : E := eC 1 mz fy
abbrev G1 : E := eC 4 mz fy
abbrev gO : E := .uf 102 (eP (.v 7250) fy)
def sZ : List (aa × List Ob) :=
 [(fT PX [], oO (.uf 110 (eP HJ (eP H4 (eP G1 fy)))) (oO (.o2 .seq HJ (eC 0 gO fy)) (oO (.o2 .seq H4 (eC 1 gO fy)) (oO (.o2 .seq (eC 2 mz fy) (eC 2 gO fy)) (oO (.o2 .seq (eC 3 mz fy) (eC 3 gO fy)) (oT G1 (eC 4 gO fy) (oO (.o2 .seq (eC 5 mz fy) (eC 5 gO fy)) (oO (.o2 .beq (eC 6 mz fy) (eC 6 gO fy)) (oO (.o2 .beq (eC 7 mz fy) (eC 7 gO fy)) []))))))))),
  (fF PX [], oT fy gO [])]
def tS : List (aa × List Ob) :=
 [(fT PX [], oO (.uf 110 (eP HJ (eP H4 (eP G1 fy)))) (oO (.o2 .seq HJ (eC 0 gO uW)) (oO (.o2 .seq H4 (eC 1 gO uW)) (oO (.o2 .seq (eC 2 mz fy) (eC 2 gO uW)) (oO (.o2 .seq (eC 3 mz fy) (eC 3 gO uW)) (oT G1 (eC 4 gO uW) (oO (.o2 .seq (eC 5 mz fy) (eC 5 gO uW)) (oO (.o2 .beq (eC 6 mz fy) (eC 6 gO uW)) (oO (.o2 .beq (eC 7 mz fy) (eC 7 gO uW)) []))))))))),
  (fF PX [], oO (.o2 .le uW (.o1 .ab gO)) (oT (.o2 .cJ gO uW) gO []))]
abbrev MB : E := .uf 102 (eP (.v 7251) fy)
def tA : List (aa × List Ob) :=
 [([], oO (.o2 .le (.o1 .ab MB) (.il 1000000)) (oO (.uf 111 (eP MB fy)) (oO (.uf 112 (eP MB fy)) [])))]
end Go.Proofs.YtdlppkhmmclipaaGreat.sxObj
namespace Go.Proofs.YtdlppkhmmclipaaGreat.sxObj
open Go.Sx Go.RowKit Go.Proofs.YtdlppkhmmclipaaGreat
set_option linter.unusedVariables false
set_option linter.unusedSimpArgs false
set_option maxRecDepth 100000
theorem lA {env : Env} {a b : E} : (E.o2 .quo a b).den env = .i ((a.den env).I.tdiv (b.den env).I) := id rfl
theorem Kc {a : Int} (h : 0 <= a) {b : Int} : a.tdiv b = a / b := Int.tdiv_eq_ediv_of_nonneg h
theorem agw {lo hi : Int} : dn lo hi 0 = hi := id rfl
theorem ags {lo hi : Int} : up lo hi 0 = lo := id rfl
theorem afL {lo hi : Int} {n : Nat} (h : lo < dn lo hi n) : dn lo hi (n + 1) = (lo + dn lo hi n).tdiv 2 := by
 show (if lo < dn lo hi n then (lo + dn lo hi n).tdiv 2 else dn lo hi n) = _
 rw [if_pos h]
theorem Pz {lo hi : Int} {n : Nat} (h : up lo hi n < hi) : up lo hi (n + 1) = (up lo hi n + hi).tdiv 2 + 1 := by
 show (if up lo hi n < hi then (up lo hi n + hi).tdiv 2 + 1 else up lo hi n) = _
 rw [if_pos h]
theorem hZ {l : Dv} {n : Nat} (h : n < l.T.length) : row l n = l.T[n] := by
 have := KH h; rw [List.getElem?_eq_getElem h] at this; exact (Option.some.inj this).symm
theorem jE {l : Dv} (h : n9 l.T) {a : Int} (ha : 0 <= a) (hb : a < (l.T.length : Nat)) : (cc (row l a.toNat) 6).B = false := h.2 _ (eb (by omega))
theorem pN {l : Dv} (h : dH l.T) {a : Int} (ha : 0 <= a) (hb : a < (l.T.length : Nat)) : Pt (cc (row l a.toNat) 0) (cc (row l a.toNat) 1) (cc (row l a.toNat) 4) := h _ (eb (by omega))
theorem HT {r : Row} (h : (cc r 6).B = false) : kl r = (ju (cc r 0).S (cc r 1).S).toList := by unfold kl; rw [mX h]
theorem pK {l : Dv} (h : n9 l.T) {a b : Int} (ha : 0 <= a) (hab : a <= b) (hb : b < (l.T.length : Nat)) : dq (ju (cc (row l b.toNat) 0).S (cc (row l b.toNat) 1).S) (ju (cc (row l a.toNat) 0).S (cc (row l a.toNat) 1).S) = false := by
 have h1 := HT (jE h ha (by omega))
 have h2 := HT (jE h (by omega : 0 <= b) hb)
 rw [uC, <- h1, <- h2, decide_eq_false_iff_not]
 by_cases he : a = b
 ·rw [he]; exact List.lt_irrefl _
 ·have hp := List.pairwise_iff_getElem.1 h.1 a.toNat b.toNat (by omega) (by omega) (by omega)
  rw [<- hZ, <- hZ] at hp; exact List.lt_asymm hp
structure Srt (l : Dv) : Prop where
 r : n9 l.T
 k : dH l.T
 n : (l.T.length : Int) <= 1000000
section
variable {o : Env}
theorem fH (hu : OU o) {l : E} {fs : aa} (h : (uR l ++ fs).ay o) : Srt (l.den o) /\ fs.ay o := by
 simp only [uR, u9, mb, aB, pk, List.foldr, List.cons_append, List.nil_append, SS, implies_true, hu.m8, hu.abj] at h; exact ⟨⟨al.1 h.1, al.1 h.2.1, h.2.2.1⟩, h.2.2.2⟩
theorem QG : bo o WE := by
 simp only [WE, af, au, and_true]
 and_intros
 all_goals intro h
 all_goals simp only [SS, implies_true]
theorem QE (hu : OU o) {r : Nat} (hr : o.v 2110 = .i r) (hent : (Mo.aU 0).ay o) (hle : (r : Int) <= ((E.o2 .sub (.v 7202) (.v 7201)).den o).I) : bo o Xb := by
 obtain ⟨hs, hent⟩ := fH hu hent; simp only [cP, aB, SS, implies_true] at hent hle; have := hs.n; simp only [E.den] at hs this; simp only [Xb, af, au, and_true]
 and_intros
 all_goals intro h
 all_goals simp only [SS, implies_true, hr, hu.mB, hu.jt] at h hle ⊢
 all_goals and_intros
 all_goals first | omega | exact pK hs.r (by omega) (by omega) (by omega) | exact jE hs.r (by omega) (by omega) | exact al.2 (pN hs.k (by omega) (by omega))
theorem OI (hu : OU o) {r : Nat} (hr : o.v 2111 = .i r) (hent : (Qn.aU 0).ay o) (hle : (r : Int) <= ((E.o2 .sub (.v 7213) (.v 7212)).den o).I) : bo o Vo := by
 obtain ⟨hs, hent⟩ := fH hu hent; simp only [cP, sM, aB, SS, implies_true] at hent hle; have := hs.n; simp only [E.den] at hs this; simp only [Vo, af, au, and_true]
 and_intros
 all_goals intro h
 all_goals simp only [SS, implies_true, lA, hr, hu.mB, hu.jt, hu.adF] at h hle ⊢
 obtain ⟨d1, d2, d3⟩ := Mu (lo := (o.v 7212).I) (hi := (o.v 7213).I) (by omega) (by omega) r
 all_goals obtain ⟨d1, d2, d3⟩ := Mu (lo := (o.v 7212).I) (hi := (o.v 7213).I) (by omega) (by omega) r
 all_goals have d3 := d3 (by omega)
 all_goals obtain ⟨d4, d5⟩ := half (a := (o.v 7212).I) (by omega) (by omega : _ < dn (o.v 7212).I (o.v 7213).I r)
 all_goals and_intros
 all_goals first | omega | exact pK hs.r (by omega) (by omega) (by omega) | exact jE hs.r (by omega) (by omega) | exact al.2 (pN hs.k (by omega) (by omega)) | exact (afL (by omega)).symm
theorem Rr (hu : OU o) {r : Nat} (hr : o.v 2112 = .i r) (hent : (Qe.aU 0).ay o) (hle : (r : Int) <= ((E.o2 .sub (.v 7217) (.v 7216)).den o).I) : bo o V1 := by
 obtain ⟨hs, hent⟩ := fH hu hent; simp only [cP, sM, aB, SS, implies_true] at hent hle; have := hs.n; simp only [E.den] at hs this; simp only [V1, af, au, and_true]
 and_intros
 all_goals intro h
 all_goals simp only [SS, implies_true, lA, hr, hu.mB, hu.jt, hu.Ub] at h hle ⊢
 all_goals obtain ⟨d1, d2, d3⟩ := LL (lo := (o.v 7216).I) (hi := (o.v 7217).I) (by omega) (by omega) r
 ·have d3 := d3 (by omega)
  obtain ⟨d4, d5⟩ := half (b := (o.v 7217).I) (by omega) (by omega : up (o.v 7216).I (o.v 7217).I r < _)
  and_intros
  all_goals first | omega | exact pK hs.r (by omega) (by omega) (by omega) | exact jE hs.r (by omega) (by omega) | exact al.2 (pN hs.k (by omega) (by omega)) | exact (Pz (by omega)).symm
 ·have d3 := d3 (by omega)
  obtain ⟨d4, d5⟩ := half (b := (o.v 7217).I) (by omega) (by omega : up (o.v 7216).I (o.v 7217).I r < _)
  and_intros
  all_goals first | omega | exact pK hs.r (by omega) (by omega) (by omega) | exact jE hs.r (by omega) (by omega) | exact al.2 (pN hs.k (by omega) (by omega)) | exact (Pz (by omega)).symm
 ·omega
theorem PN (hu : OU o) {r : Nat} (hr : o.v 2113 = .i r) (hent : (OP.aU 0).ay o) (hle : (r : Int) <= ((E.o2 .sub (.v 7222) (.v 7221)).den o).I) : bo o V2 := by
 obtain ⟨hs, hent⟩ := fH hu hent; simp only [cP, sM, aB, SS, implies_true] at hent hle; have := hs.n; simp only [E.den] at hs this; simp only [V2, af, au, and_true]
 and_intros
 all_goals intro h
 all_goals simp only [SS, implies_true, lA, hr, hu.mB, hu.jt, hu.Ub] at h hle ⊢
 all_goals obtain ⟨d1, d2, d3⟩ := LL (lo := (o.v 7221).I) (hi := (o.v 7222).I) (by omega) (by omega) r
 ·have d3 := d3 (by omega)
  obtain ⟨d4, d5⟩ := half (b := (o.v 7222).I) (by omega) (by omega : up (o.v 7221).I (o.v 7222).I r < _)
  and_intros
  all_goals first | omega | exact pK hs.r (by omega) (by omega) (by omega) | exact jE hs.r (by omega) (by omega) | exact al.2 (pN hs.k (by omega) (by omega)) | exact (Pz (by omega)).symm
 ·have d3 := d3 (by omega)
  obtain ⟨d4, d5⟩ := half (b := (o.v 7222).I) (by omega) (by omega : up (o.v 7221).I (o.v 7222).I r < _)
  and_intros
  all_goals first | omega | exact pK hs.r (by omega) (by omega) (by omega) | exact jE hs.r (by omega) (by omega) | exact al.2 (pN hs.k (by omega) (by omega)) | exact (Pz (by omega)).symm
 ·omega
theorem Og (hu : OU o) (hent : Z3.aU.ay o) : bo o XF := by
 have hg := (bS.1 hent).1; obtain ⟨hs, hent⟩ := fH hu (bS.1 hent).2; simp only [Db, cP, sM, aB, SS, implies_true] at hent hg; have := hs.n; simp only [E.den] at hs this; have hq : ((o.v 7226).I + (o.v 7228).I).tdiv 2 = ((o.v 7226).I + (o.v 7228).I) / 2 := Kc (by omega)
 simp only [XF, af, au, and_true]
 and_intros
 all_goals intro h
 all_goals simp only [SS, implies_true, lA, hq, hu.adF, hu.Ub, agw, ags] at h ⊢
 all_goals and_intros
 all_goals omega
theorem P7 (hu : OU o) {r : Nat} (hr : o.v 2114 = .i r) (hent : (Nn.aU 0).ay o) (hle : (r : Int) <= ((E.o2 .quo (.v 7231) (.il 20)).den o).I) : bo o XC := by
 obtain ⟨hs, hent⟩ := fH hu hent; simp only [cP, sM, aB, lA, SS, implies_true] at hent hle; have := hs.n; simp only [E.den] at hs this; have hq : (o.v 7231).I.tdiv 20 = (o.v 7231).I / 20 := Kc (by omega)
 simp only [XC, af, au, and_true]
 and_intros
 all_goals intro h
 all_goals simp only [SS, implies_true, lA, hq, hr] at h hle ⊢
 all_goals and_intros
 all_goals omega
theorem Pf (hu : OU o) {r : Nat} (hr : o.v 2115 = .i r) (hent : (NJ.aU 0).ay o) (hle : (r : Int) <= (E8.den o).I) : bo o V6 := by
 have hent : (uR (.v 7234) ++ [(.o2 .aN (.v 7235) (aB (.v 7234)), true), cP (.il 20) (.v 7236), sM (.v 7236) (.v 7235)]).ay o := hent; obtain ⟨hs, hent⟩ := fH hu hent; simp only [cP, sM, aB, E8, lA, SS, implies_true] at hent hle; have := hs.n; simp only [E.den] at hs this; have hq : (o.v 7235).I.tdiv (2 * (o.v 7236).I) = (o.v 7235).I / (2 * (o.v 7236).I) := Kc (by omega)
 rw [hq] at hle; have hd : 0 < 2 * (o.v 7236).I := by omega
 have h1 : ∀ a : Int, a <= (o.v 7235).I / (2 * (o.v 7236).I) ↔ a * (2 * (o.v 7236).I) <= (o.v 7235).I := fun a => Int.le_ediv_iff_mul_le hd; have h2 := (h1 r).1 hle; have h3 := h1 (r + 1); have h0 : 0 <= (r : Int) * (2 * (o.v 7236).I) := Int.mul_nonneg (by omega) (by omega)
 have hm : 2 * (o.v 7236).I * (r : Int) = r * (2 * (o.v 7236).I) := Int.mul_comm ..; have hm2 : 2 * (o.v 7236).I * ((r : Int) + 1) = r * (2 * (o.v 7236).I) + 2 * (o.v 7236).I := by rw [Int.mul_comm, Int.add_mul, Int.one_mul]
 rw [Int.add_mul, Int.one_mul] at h3; simp only [V6, af, au, and_true]
 and_intros
 all_goals intro h
 all_goals simp only [SS, implies_true, lA, hq, hr, hm, hm2] at h hle ⊢
 all_goals generalize hx : (r : Int) * (2 * (o.v 7236).I) = x at *
 ·generalize (o.v 7235).I / (2 * (o.v 7236).I) = y at *
  and_intros
  all_goals omega
 ·have : (o.v 7235).I / (2 * (o.v 7236).I) = r := by
    generalize (o.v 7235).I / (2 * (o.v 7236).I) = y at *; omega
  rw [this, hm]
theorem OK (hu : OU o) {r : Nat} (hr : o.v 2116 = .i r) (hent : (Ny.aU 0).ay o) (hle : (r : Int) <= ((E.v 7241).den o).I) : bo o V9 := by
 obtain ⟨hs, hent⟩ := fH hu hent; simp only [cP, sM, aB, lA, SS, implies_true] at hent hle; have := hs.n; simp only [E.den] at hs this
 have hb : (r : Int) < 2 ^ r := by
  have := Nat.lt_two_pow_self (n := r)
  exact_mod_cast this
 have hb2 : (2 : Int) ^ (r + 1) = 2 ^ r * 2 := Int.pow_succ ..; simp only [V9, af, au, and_true]
 and_intros
 all_goals intro h
 all_goals simp only [SS, implies_true, lA, hr, hu.Z9, hb2] at h hle ⊢
 all_goals generalize (2 : Int) ^ r = b at *
 all_goals have hd : 0 < 2 * (20 * b) := by omega
 all_goals have hq : (o.v 7241).I.tdiv (2 * (20 * b)) = (o.v 7241).I / (2 * (20 * b)) := Kc (by omega)
 all_goals simp only [hq, Int.mul_zero] at h ⊢
 all_goals have hx := Int.mul_ediv_self_le (x := (o.v 7241).I) (by omega : 2 * (20 * b) ≠ 0)
 all_goals have hy : 0 <= 2 * (20 * b) * ((o.v 7241).I / (2 * (20 * b))) := Int.mul_nonneg (by omega) (Int.ediv_nonneg (by omega) (by omega))
 all_goals generalize 2 * (20 * b) * ((o.v 7241).I / (2 * (20 * b))) = x at *
 all_goals and_intros
 all_goals first | omega | trivial
theorem F4 (hu : OU o) (hent : pH.aU.ay o) : bo o Bw := by
 have hent : (uR (.v 7245) ++ []).ay o := hent; obtain ⟨hs, _⟩ := fH hu hent; have := hs.n; simp only [E.den] at hs this; have hq : ((o.v 7245).T.length : Int).tdiv 20 = ((o.v 7245).T.length : Int) / 20 := Kc (by omega)
 simp only [Bw, af, au, and_true]; intro h; simp only [SS, implies_true, lA, hq, hu.Z9] at h ⊢
 and_intros
 ·rfl
 all_goals omega
theorem BA (hu : OU o) (hr : o.v 2117 = .i (0 : Nat)) (hent : (jB.aU 0).ay o) : bo o sZ := by
 simp only [jB, AG, okA, mb, aB, pk, List.foldr, SS, implies_true, hu.Ij] at hent; have hok := al.1 hent.1; simp only [sZ, af, au, and_true]
 and_intros
 all_goals intro h
 all_goals simp only [SS, implies_true, hr, hu.jt, hu.I0] at h ⊢
 ·have hl : 0 < (o.v 7250).T.length := by omega
  have hk := cF (l := .t ((o.v 7250).T.map nv)) hok.2 (n := 0) (by rw [Tx, List.length_map]; exact hl)
  rw [iw hl] at hk ⊢; exact ⟨al.2 hk, rfl, rfl, rfl, rfl, rfl, rfl, rfl, rfl⟩
 ·have := tH (l := (o.v 7250).T) (by simpa using h)
  rw [this]; rfl
theorem BD (hu : OU o) {r : Nat} (hr : o.v 2117 = .i r) (hent : (jB.aU 0).ay o) (hle : (r : Int) <= ((aB (.v 7250)).den o).I) : bo o tS := by
 simp only [jB, AG, okA, mb, aB, pk, List.foldr, SS, implies_true, hu.Ij] at hent hle; have hok := al.1 hent.1; simp only [tS, af, au, and_true]
 and_intros
 all_goals intro h
 all_goals simp only [SS, implies_true, hr, hu.jt, hu.I0] at h ⊢
 ·have hl : r < (o.v 7250).T.length := by omega
  have hk := cF (l := .t ((o.v 7250).T.map nv)) hok.2 (n := r) (by rw [Tx, List.length_map]; exact hl)
  rw [iw hl] at hk ⊢; exact ⟨al.2 hk, rfl, rfl, rfl, rfl, rfl, rfl, rfl, rfl⟩
 ·exact ⟨by rw [List.length_map]; omega, map_take h⟩
theorem AK (hu : OU o) (hent : my.aU.ay o) : bo o tA := by
 simp only [my, okA, mb, aB, pk, List.foldr, SS, implies_true, hu.Ij] at hent; have hok := al.1 hent.1; simp only [tA, af, au, and_true]; intro h; simp only [SS, implies_true, hu.I0, hu.m8, hu.abj, List.length_map] at h ⊢; exact ⟨hent.2, al.2 hok.2, al.2 hok.1⟩
end
def gH : aJ := .cons .str .nil
def Lu : aJ := .cons (.int .i64) .nil
def J0 : aJ := .cons (.int .i64) (.cons .bool (.cons (.sl dp) (.cons (.sl gH) (.cons .str (.cons (.sl Lu) .nil)))))
def qV : Nat := 9
def iF : Nat := 25
def wB (l : E) : E × Bool := (.o2 .le (aB l) (.il 2147483647), true)
def UK (l a b : E) : E := .uf 130 (pk [l, a, b])
def Zh (l a b : E) : E := .uf 131 (pk [l, a, b])
def G8 (l a b : Nat) : aa := [wB (.v l), (Zh (.v l) (.v a) (.v b), true)]
def ixO : aD := .cells BY [.str (.v 7301), .str (.v 7302)]
def YR : ak where
 f := Az; key := 2; N := 19; r := 2120; base := 130000
 js := [5] ++ jX 9 19
 hd := fun _ => ⟨[(0, .bR gQ (.v 7300)), (3, .ptr 1 (.c 0)), (4, .top), (7, iS (aB (.v 7300))), (8, iS (.v 2120))], [(1, ixO)], 9,
  cP (.il 0) (.v 2120) :: cP (.v 2120) (UK (.v 7300) (.v 7301) (.v 7302)) :: G8 7300 7301 7302⟩
 aU := fun _ => G8 7300 7301 7302
 app := fun _ => true
 mS := fun m => Nat.beq m 0
 dI := fun _ => .ret 0
 ll := fun m => Nat.beq m 0
 mf := fun _ => []
 hx := fun n => ⟨[(0, .top), (3, .ptr 1 (.c 0)), (4, match n with | 1 => iS (UK (.v 7300) (.v 7301) (.v 7302)) | _ => .top), (7, .top), (8, .top)], [(1, ixO)], 9, []⟩
 sP := fun ex _ => match ex with | .ret => .ret 1 | _ => .ret 0
 nS := fun n => match n with | 1 => .ret | _ => .exit 0
 bp := [(.bl false, 0), (.bl true, 1)]
 fixed := [1]
 lt := .o2 .lt (.v 2120) (UK (.v 7300) (.v 7301) (.v 7302))
 X := di.none
 fuel := 300; np := 80
 params := [7300, 7301, 7302]
def coF : cA where
 f := pv
 args := [.bR gQ (.v 7303), .agg [.str (.v 7304), .str (.v 7305)]]
 params := [7303, 7304, 7305]
 aU := G8 7303 7304 7305
 app := fun _ => true
 bp := [(.bl true, 0)]
 kind := fun _ => some 0
 out := fun _ => .bool (.bl true)
 X := (⟨[], [(Az, 2, YR.cW)]⟩ : gW).x
 fuel := 300; np := 80
def NS (f key N res : Nat) (ks : aJ) (t islot : Nat) (J : List Nat) (ex p r bad st : Nat) (X : di) (more : List (Nat × SV) := []) (args : List E := []) (ps : List Nat := []) (bj : aR := []) (aU : aa := [wB (.v p)]) : ak where
 f := f; key := key; N := N; r := r; base := 131000 + 1000 * (r - 2120)
 js := J
 hd := fun _ => ⟨more ++ [(res, .bool (.bl false)), (t, .bR ks (.v p)), (t + 1, iS (aB (.v p))), (islot, iS (.v r))], bj, 9,
  cP (.il 0) (.v r) :: cP (.v r) (.uf st (pk (.v p :: args))) :: aU⟩
 aU := fun _ => aU
 app := fun _ => true
 mS := fun m => Nat.beq m 0
 dI := fun _ => .ret 0
 ll := fun m => Nat.beq m 0
 mf := fun _ => []
 hx := fun n => ⟨more ++ [(res, .bool (.bl false)), (t, .bR ks (.v p)), (t + 1, iS (aB (.v p))), (islot, .top)], bj, 9, []⟩
 sP := fun ex _ => match ex with | .ret => .ret 1 | _ => .ret 0
 nS := fun n => match n with | 1 => .ret | _ => .exit ex
 bp := [(.uf bad (pk (.v p :: args)), 1), (.bl true, 0)]
 fixed := bj.map (·.1)
 lt := .o2 .lt (.v r) (.uf st (pk (.v p :: args)))
 X := X
 fuel := 300; np := 80
 params := p :: ps
def sG (f : Nat) (args : List SV) (ps : List Nat) (aU : aa) (code : Nat) (xs : List E) (X : di) : cA where
 f := f
 args := args
 params := ps
 aU := aU
 app := fun _ => true
 bp := [(.bl true, 0)]
 kind := fun _ => some 0
 out := fun _ => .bool (.uf code (pk xs))
 X := X
 fuel := 300; np := 80
def goT (f key N res : Nat) (ks : aJ) (t islot : Nat) (J : List Nat) (ex p r : Nat) (X : di) (aU : aa) (more : List (Nat × SV) := []) (ps : List Nat := []) (bj : aR := []) : ak where
 f := f; key := key; N := N; r := r; base := 131000 + 1000 * (r - 2120)
 js := J
 hd := fun _ => ⟨more ++ [(res, .bool (.bl false)), (t, .bR ks (.v p)), (t + 1, iS (aB (.v p))), (islot, iS (.v r))], bj, 9,
  cP (.il 0) (.v r) :: cP (.v r) (aB (.v p)) :: wB (.v p) :: aU⟩
 aU := fun _ => wB (.v p) :: aU
 app := fun _ => true
 mS := fun m => Nat.beq m 0
 dI := fun _ => .ret 0
 ll := fun m => Nat.beq m 0
 mf := fun _ => []
 hx := fun n => ⟨more ++ [(res, .bool (.bl false)), (t, .bR ks (.v p)), (t + 1, iS (aB (.v p))), (islot, .top)], bj, 9, []⟩
 sP := fun ex _ => match ex with | .ret => .ret 1 | _ => .ret 0
 nS := fun n => match n with | 1 => .ret | _ => .exit ex
 bp := [(.bl false, 1), (.bl true, 0)]
 fixed := bj.map (·.1)
 lt := .o2 .lt (.v r) (aB (.v p))
 X := X
 fuel := 300; np := 80
 params := p :: ps
def slY : ak := goT eL 4 23 4 gQ 12 14 ([6] ++ jX 15 23) 0 7307 2121 (⟨[(pv, coF.aS)], []⟩ : gW).x [] [(1, .bR gQ (.v 7307))]
def slF : cA where
 f := eL
 args := [.bR gQ (.v 7308), .bR gQ (.v 7308)]
 params := [7308]
 aU := [wB (.v 7308)]
 app := fun _ => true
 bp := [(.bl true, 0)]
 kind := fun _ => some 0
 out := fun _ => .bool (.bl true)
 X := (⟨[], [(eL, 4, slY.cW)]⟩ : gW).x
 fuel := 300; np := 80
def soF : cA where
 f := sF
 args := [.agg (qU (vE 7310)), .agg (qU (vE 7310))]
 params := jX 7310 7318
 aU := [wB (.v 7314)]
 app := fun _ => true
 bp := [(.bl true, 0)]
 kind := fun _ => some 0
 out := fun _ => .bool (.bl true)
 X := (⟨[(eL, slF.aS)], []⟩ : gW).x
 fuel := 300; np := 80
def Xg (l : E) : E := .uf 132 (pk [l])
def GB (j : Nat) : E := .v (7320 + j)
def st6 : List SV := [iS (GB 0), .bool (GB 1), .bR dp (GB 2), .bR gH (GB 3), .str (GB 4), .bR Lu (GB 5)]
def M7 : aa := [u9 (GB 2), .o2 .le (aB (GB 2)) (.il 2147483647), .o2 .le (aB (GB 3)) (.il 2147483647)].map fun e => (e, true)
def ssY (key i ex r : Nat) (J : List Nat) (len : E) (X : di) : ak where
 f := iF; key := key; N := 89; r := r; base := 131000 + 1000 * (r - 2120)
 js := J
 hd := fun _ => ⟨[(2, .ptr 1 (.c 0)), (3, .ptr 2 (.c 0)), (4, .bool (.bl false)), (i, iS (.v r))], [(2, .cells kC st6), (1, .cells kC st6)], 9,
  cP (.il 0) (.v r) :: cP (.v r) len :: M7⟩
 aU := fun _ => M7
 app := fun _ => true
 mS := fun m => Nat.beq m 0
 dI := fun _ => .ret 0
 ll := fun m => Nat.beq m 0
 mf := fun _ => []
 hx := fun n => ⟨[(2, .ptr 1 (.c 0)), (3, .ptr 2 (.c 0)), (4, .bool (.bl false)), (i, .top)], [(2, .cells kC st6), (1, .cells kC st6)], 9, []⟩
 sP := fun ex _ => match ex with | .ret => .ret 1 | _ => .ret 0
 nS := fun n => match n with | 1 => .ret | _ => .exit ex
 bp := [(.bl false, 1), (.bl true, 0)]
 fixed := [1, 2]
 lt := .o2 .lt (.v r) len
 X := X
 fuel := 300; np := 80
 params := jX 7320 7326
def Ih : ak := ssY 4 5 0 2122 (jX 42 66) (aB (GB 2)) (⟨[(sF, soF.aS)], []⟩ : gW).x
def PS : ak := ssY 9 6 2 2123 (jX 66 89) (aB (GB 3)) di.none
def ssA : List SV := [iS (.v 7330), .bool (.v 7331), .bR dp (.v 7332), .bR gH (.v 7333), .str (.v 7334), .bR Lu (.v 7335)]
def ZU : cA where
 f := iF
 args := [.agg ssA, .agg ssA]
 params := jX 7330 7336
 aU := [u9 (.v 7332), .o2 .le (aB (.v 7332)) (.il 2147483647), .o2 .le (aB (.v 7333)) (.il 2147483647)].map fun e => (e, true)
 app := fun _ => true
 bp := [(.bl true, 0)]
 kind := fun _ => some 0
 out := fun _ => .bool (.bl true)
 X := (⟨[], [(iF, 4, Ih.cW), (iF, 9, PS.cW)]⟩ : gW).x
 fuel := 400; np := 80
def YX : ak := goT qV 4 27 4 J0 11 13 ([5] ++ jX 14 27) 0 7340 2124 (⟨[(iF, ZU.aS)], []⟩ : gW).x [(Xg (.v 7340), true)] [(0, .bR J0 (.v 7340)), (1, .bR J0 (.v 7340))]
def saF : cA where
 f := qV
 args := [.bR J0 (.v 7341), .bR J0 (.v 7341)]
 params := [7341]
 aU := [wB (.v 7341), (Xg (.v 7341), true)]
 app := fun _ => true
 bp := [(.bl true, 0)]
 kind := fun _ => some 0
 out := fun _ => .bool (.bl true)
 X := (⟨[], [(qV, 4, YX.cW)]⟩ : gW).x
 fuel := 300; np := 80
def zM : E := .il 2147483647
def Je : Nat := 21
def Dr : Nat := 42
def ud : Nat := 44
def jP : Nat := 72
def l5 : Nat := 22
def ly : Nat := 24
def z6Y : ak := NS Dr 4 18 2 gQ 8 10 ([4] ++ jX 11 18) 0 7400 2130 133 134 di.none
def z6F : cA := sG Dr [.bR gQ (.v 7401)] [7401] [] 135 [.v 7401] (⟨[], [(Dr, 4, z6Y.cW)]⟩ : gW).x
def ac9 (e : Nat -> E) : E := .uf 136 (pk [e 0, e 1, e 2, e 3, e 4, e 5])
def WI : cA := sG Je [.agg (qU (vE 7410))] (jX 7410 7418) [] 136 [.v 7410, .v 7411, .v 7412, .v 7413, .v 7414, .v 7415] (⟨[(Dr, z6F.aS)], []⟩ : gW).x
def Oh : ak := NS ud 4 18 2 dp 8 10 ([4] ++ jX 11 18) 0 7420 2131 137 138 (⟨[(Je, WI.aS)], []⟩ : gW).x
def M9 : cA := sG ud [.bR dp (.v 7421)] [7421] [] 139 [.v 7421] (⟨[], [(ud, 4, Oh.cW)]⟩ : gW).x
def PZ : ak := NS jP 7 42 2 gQ 26 28 ([6] ++ jX 29 38) 2 7430 2133 143 144 di.none [(4, .ptr 1 (.c 0))] [.v 7431] [7431, 7432] [(1, .cells BY [.str (.v 7431), .str (.v 7432)])]
def JC : ak := NS jP 2 42 2 gQ 7 9 ([3, 4, 6] ++ jX 10 39) 0 7433 2134 145 146 (⟨[], [(jP, 7, PZ.cW)]⟩ : gW).x [(0, .bR gQ (.v 7433))]
def K3 : cA := sG jP [.bR gQ (.v 7434)] [7434] [wB (.v 7434)] 147 [.v 7434] (⟨[], [(jP, 2, JC.cW)]⟩ : gW).x
def szE (e : E) : E := .o1 .size e
def shY : ak where
 f := l5; key := 5; N := 34; r := 2135; base := 146000
 js := [5] ++ jX 19 26
 hd := fun _ => ⟨[(2, .bool (.bl false)), (4, .str (.v 7436)), (17, iS (szE (.v 7436))), (18, iS (.v 2135))], [], 9,
  cP (.il 0) (.v 2135) :: cP (.v 2135) (.uf 149 (pk [.v 7436])) :: [cP (szE (.v 7436)) zM]⟩
 aU := fun _ => [cP (szE (.v 7436)) zM]
 app := fun _ => true
 mS := fun m => Nat.beq m 0
 dI := fun _ => .ret 0
 ll := fun m => Nat.beq m 0
 mf := fun _ => []
 hx := fun n => ⟨[(2, .bool (.bl false)), (4, .str (.v 7436)), (17, .top), (18, .top)], [], 9, []⟩
 sP := fun ex _ => match ex with | .ret => .ret 1 | _ => .ret 0
 nS := fun n => match n with | 1 => .ret | _ => .exit 2
 bp := [(.uf 148 (pk [.v 7436]), 1), (.bl true, 0)]
 fixed := []
 lt := .o2 .lt (.v 2135) (.uf 149 (pk [.v 7436]))
 X := di.none
 fuel := 300; np := 80
 params := [7436]
def QH : cA := sG l5 [.agg (qU (vE 7440))] (jX 7440 7448) [(ac9 (vE 7440), true)] 150 (pk8 (vE 7440)) (⟨[(jP, K3.aS)], [(l5, 5, shY.cW)]⟩ : gW).x
def Ie : ak := NS ly 2 18 2 dp 5 7 ([4] ++ jX 8 15) 0 7450 2136 151 152 (⟨[(l5, QH.aS)], []⟩ : gW).x [] [] [] [] [(.uf 139 (pk [.v 7450]), true)]
def LD : cA := sG ly [.bR dp (.v 7451)] [7451] [(.uf 139 (pk [.v 7451]), true)] 153 [.v 7451] (⟨[], [(ly, 2, Ie.cW)]⟩ : gW).x
end Go.Proofs.YtdlppkhmmclipaaGreat.sxObj
namespace Go.Proofs.YtdlppkhmmclipaaGreat.sxObj
open Go.Sx
set_option linter.unusedVariables false
set_option maxRecDepth 100000
abbrev od0 : E := .o2 .seq (.v 7302) (eC 1 (.v 7300) (.v 2120))
abbrev od1 : E := .o2 .seq (.v 7301) (eC 0 (.v 7300) (.v 2120))
abbrev od2 : E := .o2 .lt (.v 2120) (.o1 .ab (.v 7300))
abbrev od3 : aa := fT od1 (fT od2 [])
abbrev nQ : E := .il 0
abbrev od5 : E := .uf 130 (eP (.v 7300) (eP (.v 7301) (eP (.v 7302) nQ)))
abbrev od6 : List Ob := oO (.o2 .lt (.v 2120) od5) []
abbrev Vb : E := .bl false
def ixL : List (aa × List Ob) :=
 [(fT od0 od3, oO (.o2 .aN (.v 2120) od5) []),
  (fF od0 od3, od6),
  (fF od1 (fT od2 []), od6),
  (fF od2 [], oO Vb [])]
def coL : List (aa × List Ob) :=
 [([], oO (.o2 .beq (.o2 .le nQ (.uf 130 (eP (.v 7303) (eP (.v 7304) (eP (.v 7305) nQ))))) (.bl true)) [])]
abbrev od8 : E := .o2 .lt (.v 2121) (.o1 .ab (.v 7307))
def UP : List (aa × List Ob) :=
 [(fT od8 [], oO (.uf 131 (eP (.v 7307) (eP (eC 0 (.v 7307) (.v 2121)) (eP (eC 1 (.v 7307) (.v 2121)) nQ)))) []),
  (fF od8 [], [])]
def slL : List (aa × List Ob) :=
 [([], [])]
def soL : List (aa × List Ob) :=
 [([], [])]
abbrev od9 : E := .o2 .lt (.v 2122) (.o1 .ab (.v 7322))
abbrev Oc : aa := fT (.o2 .aN (.v 7320) nQ) []
abbrev qe : E := .il 2147483647
abbrev ZC : aa := fF (.o2 .aN (.v 7320) nQ) []
def W9 : List (aa × List Ob) :=
 [(fT od9 Oc, oO (.o2 .le (.o1 .ab (eC 4 (.v 7322) (.v 2122))) qe) []),
  (fF od9 Oc, []),
  (ZC, [])]
abbrev Z2 : E := .o2 .lt (.v 2123) (.o1 .ab (.v 7323))
def WQ : List (aa × List Ob) :=
 [(fT Z2 Oc, []),
  (fF Z2 Oc, []),
  (ZC, [])]
def ssL : List (aa × List Ob) :=
 [(fT (.o2 .aN (.v 7330) nQ) [], []),
  (fF (.o2 .aN (.v 7330) nQ) [], [])]
abbrev ZB : E := .o2 .lt (.v 2124) (.o1 .ab (.v 7340))
abbrev aeJ : E := eC 2 (.v 7340) (.v 2124)
def We : List (aa × List Ob) :=
 [(fT ZB [], oO (.o2 .le (.o1 .ab (eC 3 (.v 7340) (.v 2124))) qe) (oO (.o2 .le (.o1 .ab aeJ) qe) (oO (.uf 111 (eP aeJ nQ)) []))),
  (fF ZB [], [])]
def saL : List (aa × List Ob) :=
 [([], [])]
abbrev aa2 : E := .o2 .lt qe (.o1 .size (eC 0 (.v 7400) (.v 2130)))
abbrev Vv : E := .o2 .lt (.v 2130) (.o1 .ab (.v 7400))
abbrev W2 : E := .uf 133 (eP (.v 7400) nQ)
abbrev aav : E := .o2 .lt qe (.o1 .size (eC 1 (.v 7400) (.v 2130)))
abbrev ZW : aa := fF aa2 (fT Vv [])
def WS : List (aa × List Ob) :=
 [(fT aa2 (fT Vv []), oO W2 []),
  (fT aav ZW, oO W2 []),
  (fF aav ZW, oO (.o2 .lt (.v 2130) (.uf 134 (eP (.v 7400) nQ))) []),
  (fF Vv [], oO (.o1 .not W2) [])]
abbrev VL : E := .o2 .lt qe (.o1 .ab (.v 7401))
abbrev adk : E := .uf 135 (eP (.v 7401) nQ)
abbrev adA : List Ob := oO (.o2 .beq Vb adk) []
abbrev acI : E := .uf 133 (eP (.v 7401) nQ)
def z6L : List (aa × List Ob) :=
 [(fT VL [], adA),
  (fT acI (fF VL []), adA),
  (fF acI (fF VL []), oO (.o2 .beq (.bl true) adk) [])]
abbrev Vq : E := .o2 .lt qe (.o1 .size (.v 7410))
abbrev ad2 : E := .uf 136 (eP (.v 7410) (eP (.v 7411) (eP (.v 7412) (eP (.v 7413) (eP (.v 7414) (eP (.v 7415) nQ))))))
abbrev Jn : List Ob := oO (.o2 .beq Vb ad2) []
abbrev aaw : E := .o2 .lt qe (.o1 .size (.v 7411))
abbrev V5 : E := .o2 .lt qe (.o1 .size (.v 7412))
abbrev Xp : aa := fF aaw (fF Vq [])
abbrev adf : E := .o2 .lt qe (.o1 .size (.v 7413))
abbrev aa9 : E := .o2 .lt qe (.o1 .size (.v 7415))
abbrev WJ : E := .uf 135 (eP (.v 7414) nQ)
abbrev UH : aa := fF adf (fF V5 Xp)
def z5L : List (aa × List Ob) :=
 [(fT Vq [], Jn),
  (fT aaw (fF Vq []), Jn),
  (fT V5 Xp, Jn),
  (fT adf (fF V5 Xp), Jn),
  (fT aa9 (fT WJ UH), Jn),
  (fF aa9 (fT WJ UH), oO (.o2 .beq (.bl true) ad2) []),
  (fF WJ UH, Jn)]
abbrev A8 : E := .v 7420
abbrev Cc : E := .v 2131
abbrev aeR : E := .uf 136 (eP (eC 0 A8 Cc) (eP (eC 1 A8 Cc) (eP (eC 2 A8 Cc) (eP (eC 3 A8 Cc) (eP (eC 4 A8 Cc) (eP (eC 5 A8 Cc) nQ))))))
abbrev VN : E := .o2 .lt Cc (.o1 .ab A8)
abbrev aeW : E := .uf 137 (eP A8 nQ)
def NK : List (aa × List Ob) :=
 [(fT aeR (fT VN []), oO (.o2 .lt Cc (.uf 138 (eP A8 nQ))) []),
  (fF aeR (fT VN []), oO aeW []),
  (fF VN [], oO (.o1 .not aeW) [])]
abbrev Yb : E := .o2 .lt qe (.o1 .ab (.v 7421))
abbrev aeV : E := .uf 139 (eP (.v 7421) nQ)
abbrev ZK : List Ob := oO (.o2 .beq Vb aeV) []
abbrev abr : E := .uf 137 (eP (.v 7421) nQ)
def Uu : List (aa × List Ob) :=
 [(fT Yb [], ZK),
  (fT abr (fF Yb []), ZK),
  (fF abr (fF Yb []), oO (.o2 .beq (.bl true) aeV) [])]
abbrev aaa : E := .o2 .seq (eC 0 (.v 7430) (.v 2133)) (.v 7431)
abbrev Ws : E := .o2 .lt (.v 2133) (.o1 .ab (.v 7430))
abbrev Us : E := eP (.v 7430) (eP (.v 7431) nQ)
def Ye : List (aa × List Ob) :=
 [(fT aaa (fT Ws []), oO (.uf 143 Us) []),
  (fF aaa (fT Ws []), oO (.o2 .lt (.v 2133) (.uf 144 Us)) []),
  (fF Ws [], oO (.o1 .not (.uf 143 Us)) [])]
abbrev Fg : E := .v 2134
abbrev adG : E := eC 0 (.v 7433) Fg
abbrev acH : E := .uf 143 (eP (.o2 .cJ (.v 7433) Fg) (eP adG nQ))
abbrev XI : E := .o2 .le (.o1 .size (eC 1 (.v 7433) Fg)) (.il 40)
abbrev adn : E := .o2 .le (.o1 .size adG) (.il 40)
abbrev U6 : E := .o2 .lt Fg (.o1 .ab (.v 7433))
abbrev T9 : aa := fT adn (fT U6 [])
abbrev Pk : E := .uf 145 (eP (.v 7433) nQ)
abbrev ac2 : List Ob := oO (.o2 .le (.o1 .ab (.o2 .cJ (.v 7433) Fg)) qe) (oO (.o2 .le Fg (.o1 .ab (.v 7433))) [])
def Km : List (aa × List Ob) :=
 [(fT acH (fT XI T9), oO Pk ac2),
  (fF acH (fT XI T9), oO (.o2 .lt Fg (.uf 146 (eP (.v 7433) nQ))) ac2),
  (fF XI T9, oO Pk []),
  (fF adn (fT U6 []), oO Pk []),
  (fF U6 [], oO (.o1 .not Pk) [])]
abbrev abl : E := .uf 145 (eP (.v 7434) nQ)
abbrev Zi : E := .uf 147 (eP (.v 7434) nQ)
def X3 : List (aa × List Ob) :=
 [(fT abl [], oO (.o2 .beq Vb Zi) []),
  (fF abl [], oO (.o2 .beq (.o2 .le (.o1 .ab (.v 7434)) (.il 6)) Zi) [])]
abbrev ZX : E := .o2 .aN (.o2 .byte (.v 7436) (.v 2135)) (.il 47)
abbrev XU : E := .o2 .lt (.v 2135) (.o1 .size (.v 7436))
abbrev acF : E := .uf 148 (eP (.v 7436) nQ)
def shL : List (aa × List Ob) :=
 [(fT ZX (fT XU []), oO acF []),
  (fF ZX (fT XU []), oO (.o2 .lt (.v 2135) (.uf 149 (eP (.v 7436) nQ))) []),
  (fF XU [], oO (.o1 .not acF) [])]
abbrev UU : E := .uf 148 (eP (.v 7440) nQ)
abbrev aaK : E := .uf 150 (eP (.v 7440) (eP (.v 7441) (eP (.v 7442) (eP (.v 7443) (eP (.v 7444) (eP (.v 7445) (eP (.v 7446) (eP (.v 7447) nQ))))))))
abbrev CF : List Ob := oO (.o2 .beq Vb aaK) []
abbrev adi : List Ob := oO (.o2 .le (.o1 .size (.v 7440)) qe) CF
abbrev aa8 : E := .uf 148 (eP (.v 7441) nQ)
abbrev ab0 : List Ob := oO (.o2 .le (.o1 .size (.v 7441)) qe) adi
abbrev TZ : E := .uf 147 (eP (.v 7444) nQ)
abbrev Zz : E := .o2 .le (.o1 .ab (.v 7444)) (.il 4)
abbrev U4 : E := .o2 .le (.o1 .size (.v 7445)) (.il 40)
abbrev abu : E := .o2 .le (.o1 .size (.v 7443)) (.il 20)
abbrev Yl : E := .o2 .le (.o1 .size (.v 7442)) (.il 20)
abbrev aab : E := .o2 .le (.o1 .size (.v 7441)) (.il 20)
abbrev UD : E := .o2 .le (.o1 .size (.v 7440)) (.il 20)
abbrev UR : aa := fF aa8 (fF UU [])
abbrev XB : aa := fT aab (fT UD UR)
abbrev YG : aa := fT abu (fT Yl XB)
abbrev Vt : aa := fT Zz (fT U4 YG)
def smL : List (aa × List Ob) :=
 [(fT UU [], adi),
  (fT aa8 (fF UU []), ab0),
  (fT (.v 7447) (fT TZ Vt), CF),
  (fF (.v 7447) (fT TZ Vt), oO (.o2 .beq (.o1 .not (.o2 .seq (.v 7441) (.sl []))) aaK) []),
  (fF TZ Vt, CF),
  (fF Zz (fT U4 YG), CF),
  (fF U4 YG, CF),
  (fF abu (fT Yl XB), CF),
  (fF Yl XB, CF),
  (fF aab (fT UD UR), oO (.o2 .le (.o1 .size (.v 7441)) qe) CF),
  (fF UD UR, ab0)]
abbrev oc : E := .v 7450
abbrev oQ : E := .v 2136
abbrev ab8 : E := .uf 150 (eP (eC 0 oc oQ) (eP (eC 1 oc oQ) (eP (eC 2 oc oQ) (eP (eC 3 oc oQ) (eP (eC 4 oc oQ) (eP (eC 5 oc oQ) (eP (eC 6 oc oQ) (eP (eC 7 oc oQ) nQ))))))))
abbrev WW : E := .o2 .lt oQ (.o1 .ab oc)
abbrev aag : List Ob := oO (.uf 136 (eP (eC 0 oc oQ) (eP (eC 1 oc oQ) (eP (eC 2 oc oQ) (eP (eC 3 oc oQ) (eP (eC 4 oc oQ) (eP (eC 5 oc oQ) nQ))))))) []
abbrev aeh : E := .uf 151 (eP oc nQ)
def Lj : List (aa × List Ob) :=
 [(fT ab8 (fT WW []), oO (.o2 .lt oQ (.uf 152 (eP oc nQ))) (oO (.o2 .le (.o2 .add oQ (.il 1)) (.il 9223372036854775807)) aag)),
  (fF ab8 (fT WW []), oO aeh aag),
  (fF WW [], oO (.o1 .not aeh) [])]
abbrev aee : E := .uf 151 (eP (.v 7451) nQ)
abbrev ZG : E := .uf 153 (eP (.v 7451) nQ)
def Xf : List (aa × List Ob) :=
 [(fT aee [], oO (.o2 .beq Vb ZG) []),
  (fF aee [], oO (.o2 .beq (.o2 .le (.o1 .ab (.v 7451)) (.il 20)) ZG) [])]
end Go.Proofs.YtdlppkhmmclipaaGreat.sxObj
