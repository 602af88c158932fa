/-
  What functions have to show, as printed.
-/
import Derived.Test.YtdlppkhmmclipaaGreatSxMLoopH
import Derived.Shelf.Sort.Plain
import Derived.Sort.KeysCollected
import Derived.Test.YtdlppkhmmclipaaGreatChecked
import Derived.Sort.Walk0
namespace Go.Sx
open Go.RowKit Go.Sort Go.Proofs
set_option linter.unusedVariables false
set_option linter.unusedSimpArgs false
def gF : aJ := .cons .str .nil
def jG (r : List Dv) : List UInt8 := (r.headD (.i 0)).S.data.toList
def KG (b : List UInt8) : List Dv := [.s ⟨b.toArray⟩]
def eL (l : List (List Dv)) : List (List Dv) := ((l.map jG).mergeSort leB).map KG
theorem yW {l : List (List Dv)} : (eL l).length = l.length := by simp [eL]
theorem E0 {l l' : List (List Dv)} (h : l.Perm l') : eL l = eL l' := by
 unfold eL; rw [mergeSort_of_perm (h.map jG)]
def sm (c : Nat) (e : E) : E := .uf c (.o2 .b9 e (.il 0))
def Hd (c : Nat) (n : Nat) (T : TypeId) (len e : E) (nx : Nat) : Prog (SV × Nat) := do
 ka (jT .aN len (gk .ab e))
 ka (ln len (.il 4611686018427387903))
 iW n (.row T 1 len [.tc .str (sm c e) 0] [])
 return (.fk [], nx)
def zk (c : Nat) (args : List SV) (nx : Nat) : Option (Prog (SV × Nat)) :=
 match args with
 | [.bO] => some (.ret (.fk [], nx))
 | [.sl n 1 (.il 0) len] => some (do
   let o <- e8 n
   match o with
   | .rV T (.cons .str .nil) e => Hd c n T len e nx
   | .row T 1 rl [.tc .str e 0] [] => do
     ka (jT .aN rl (gk .ab e))
     Hd c n T len e nx
   | _ => .fail "sort: of what")
 | _ => none
def MZ (f : FuncId) : cA := { f := f, args := [.bQ gF (.il 0)], params := [], aU := [], app := fun _ => true, bp := [(.bl true, 0)], kind := fun _ => some 0, out := fun _ => .fk [], X := dg.none, fuel := 300, np := 20 }
theorem wB {P : Program} (hP : Plain P) (hM : P.follows .mixedOrders = true) {f : FuncId} (ho : (MZ f).iK P = some [([], [])]) (w : World) (A : Option Addr) (cap : Nat) :
    Calls P f #[.slice A 0 cap] w fun e w' => e = .returned (.tuple #[]) /\ Kept (anchor w) w' := by
 have h := cA.vI hP hM ho (e' := B1 fun _ _ => .i 0) (fun A => ct) gw (by simp only [af, au, and_true]; intro _ y hy; cases hy)
 have h0 : aE (B1 fun _ _ => .i 0) (ng w ⟨fun _ => none, ⟨fun _ => none, fun _ _ => none⟩⟩) ⟨fun _ => none, ⟨fun _ => none, fun _ _ => none⟩⟩ (bm (pf [])) w :=
  qL ⟨rfl, rfl, rfl, Nat.le_refl _, fun _ _ => rfl⟩ rfl (fun b x h => by cases h) (fun b x h => by cases h)
 refine (h w _ [.slice A 0 cap] h0 ⟨_, [], rfl, ⟨A, cap, rfl, Nat.zero_le _, fun h => absurd h (Nat.lt_irrefl 0)⟩, rfl⟩).mono fun e w' hq => ?_; obtain ⟨m, xs, ρ', v, nq, e2, hh, rfl, hxs, t1, hle', HS, hnx, g1⟩ := hq; obtain ⟨x, rfl, hx⟩ := g1; have hx : x = [] := hx; subst hx; exact ⟨rfl, ⟨HS.below.os, HS.below.tape, HS.below.output, HS.below.size, HS.below.block⟩⟩
theorem AE {w : World} {b : Nat} {cs : Array Value} {T : TypeId} {fr : Nat × Nat} (h : w.heap[b]? = some (.cells cs T fr)) (f : Array Value -> Array Value) : mapBlock w b f = w.bg b (.cells (f cs) T fr) := by
 have cV := (Array.getElem?_eq_some_iff.1 h).1; unfold mapBlock World.bg
 congr 1
 apply Array.ext_getElem?
 intro k; rw [Array.getElem?_modify]
 by_cases hk : b = k
 ·subst hk; rw [if_pos rfl, h, Array.getElem?_setIfInBounds, if_pos rfl, if_pos cV]; rfl
 ·simp [hk]
theorem rO {d : Array (List UInt8)} {cs : Array Value} (h : d.size <= cs.size) : (Go.Sort.putCells encStr 0 d cs).toList = (d.toList.map encStr) ++ cs.toList.drop d.size := by
 apply List.ext_getElem?
 intro k; unfold Go.Sort.putCells; rw [Array.getElem?_toList, Array.getElem?_mapIdx]
 by_cases hk : k < d.size
 ·have hkc : k < cs.size := by omega
  rw [List.getElem?_append_left (by simpa using hk)]
  simp [hk, hkc, Array.getElem?_eq_getElem hkc]
 ·rw [List.getElem?_append_right (by simp; omega)]
  simp only [List.length_map, Array.length_toList, List.getElem?_drop]; rw [show d.size + (k - d.size) = k by omega, Array.getElem?_toList]
  cases hc : cs[k]? with
  | none => simp
  | some v => simp [hk]
section
variable {P : Program} {env : Env} {A : Anchor} {ρ : ah} {h : aM} {w : World}
theorem aE.sorted (H : aE env A ρ h w) {n : Nat} {T : TypeId} {e : E} {c : Nat} {len : E} {p : Pl} {l : List (List Dv)} {cs : Array Value} {o : aD} (hn : az h n = some o) (ho : o.owner = true) (hp : ρ n = some p) (hK : ¬ A.K p.block) (hb0 : p.base = 0) (hni : p.nil = false)
    (hw : w.heap[p.block]? = some (.cells cs T (0, 0))) (hbag : w6 gF ρ.fz (e.den env) p l cs) (hlen : (len.den env).I = ((e.den env).T.length : Int)) (hu : ∀ d, env.uf c d = .t (eL (d.row.headD (.i 0)).T)) (k : Nat) (os : Array Obj) :
    aE env A ρ (bh h n (.row T 1 len [.tc .str (sm c e) 0] [])) (grow (putRow encStr (Sort.ahead w k) p.block 0 ((l.map jG).mergeSort leB).toArray) os) := by
 have H1 : aE env A ρ h (Sort.ahead w k) := H.drawn rfl rfl rfl rfl; have hw1 : (Sort.ahead w k).heap[p.block]? = some (.cells cs T (0, 0)) := hw; obtain ⟨b1, b2, b3, b4⟩ := hbag; have hd1 : gF.len = 1 := rfl; rw [hd1, Nat.mul_one] at b2; have hsl : ((l.map jG).mergeSort leB).toArray.size = l.length := by simp
 have hsort : eL (e.den env).T = ((l.map jG).mergeSort leB).map KG := by rw [<- E0 b1]; rfl
 have hcells := rO (d := ((l.map jG).mergeSort leB).toArray) (cs := cs) (by rw [hsl]; omega)
 have hpr : putRow encStr (Sort.ahead w k) p.block 0 ((l.map jG).mergeSort leB).toArray = (Sort.ahead w k).bg p.block (.cells (Go.Sort.putCells encStr 0 ((l.map jG).mergeSort leB).toArray cs) T (0, 0)) := AE hw1 _
 have hden : ((sm c e).den env) = .t (eL (e.den env).T) := by
  show env.uf c _ = _; rw [hu]; rfl
 have hlN : (len.den env).I.toNat = l.length := by rw [hlen, Int.toNat_natCast, b1.length_eq]
 have H2 : aE env A ρ (bh h n (.row T 1 len [.tc .str (sm c e) 0] [])) ((Sort.ahead w k).bg p.block (.cells (Go.Sort.putCells encStr 0 ((l.map jG).mergeSort leB).toArray cs) T (0, 0))) := by
  refine H1.update hn ho hp rfl ⟨p, ((l.map jG).mergeSort leB).map encStr, cs.toList.drop l.length, hp, hK, hb0, hni, ⟨_, [], (List.append_nil _).symm, by rw [hlN]; simp, fun i hi j bY hc => ?_, rfl, (fun t ht => by cases ht), Nat.le_refl _⟩, ?_, ?_⟩
  ·rw [hlN] at hi; cases j with
   | succ j => simp at hc
   | zero =>
     simp only [List.getElem?_cons_zero, Option.some.injEq] at hc; subst hc; have hil : i < ((l.map jG).mergeSort leB).length := by simpa using hi
     refine ⟨encStr ((l.map jG).mergeSort leB)[i], by rw [Nat.mul_one, Nat.add_zero, List.getElem?_map, List.getElem?_eq_getElem hil]; rfl, ?_⟩
     rw [ch.at, cQ]; simp only [DK.Rel, E.den, O2.den]
     have e1 : (((sm c e).den env).at ((i : Int).toNat) 0) = .s ⟨((l.map jG).mergeSort leB)[i].toArray⟩ := by
      rw [hden, hsort]; unfold Dv.at; simp only [Dv.T, Int.toNat_natCast, List.getElem?_map, List.getElem?_eq_getElem hil, Option.map_some, Option.getD_some, KG, List.getElem?_cons_zero]
     rw [show (Dv.i (i : Int)).I.toNat = ((i : Int).toNat) from rfl, e1]; rfl
  ·simp only [List.length_append, List.length_map, List.length_mergeSort, List.length_drop, Array.length_toList]; omega
  ·have := bx (w := Sort.ahead w k) (o := .cells (Go.Sort.putCells encStr 0 ((l.map jG).mergeSort leB).toArray cs) T (0, 0)) hw1; rw [this, <- hsl]
   congr 1
   show Obj.cells _ T (0, 0) = _
   congr 1
   rw [<- Array.toList_inj, hcells]
 rw [hpr]; refine H2.stay ⟨rfl, rfl, rfl, ?_, fun b hb => ?_⟩
 ·simp [grow, anchor]
 ·show (_ ++ os)[b]? = _; exact Array.getElem?_append_left hb
end
theorem I0 (w : World) (b : Nat) : putRow encStr w b 0 (([] : List (List UInt8)).toArray) = w := by
 refine mapBlock_id w b _ fun c e fr _ => ?_; rw [<- Array.toList_inj, rO (Nat.zero_le _)]; rfl
theorem PD {P : Program} (hP : Plain P) (hM : P.follows .mixedOrders = true) {f : FuncId} (ho : (MZ f).iK P = some [([], [])]) {env : Env} {c : Nat}
    (hs : ∀ (blk off cap : Nat) (ss : List (List UInt8)) (w : World), Holds encStr w blk off ss.toArray -> blk < w.heap.size -> ss.length < 4611686018427387904 ->
     Calls P f #[.slice (some ⟨blk, off, none⟩) ss.length cap] w fun e w' => e = .returned (.tuple #[]) /\ ∃ n os, w' = grow (putRow encStr (Sort.ahead w n) blk off (ss.mergeSort leB).toArray) os)
    (hu : ∀ d, env.uf c d = .t (eL (d.row.headD (.i 0)).T)) : dZ P env f (zk c) := by
 intro w0 args nx p h r h' nx' hp hr; unfold zk at hp; split at hp
 ·injection hp with hp; subst hp; simp only [aW, Prod.mk.injEq] at hr; obtain ⟨⟨rfl, rfl⟩, rfl⟩ := hr; refine ⟨Nat.le_refl _, fun ρ w vs H hn ha => ?_⟩; simp only [SV.aF, SV.Rel] at ha; obtain ⟨v, q, rfl, rfl, rfl⟩ := ha; refine (wB hP hM ho w none 0).mono fun e w' hq => ?_; obtain ⟨rfl, K⟩ := hq; exact ⟨ρ, _, rfl, ah.le_refl ρ, H.stay K, hn, [], rfl, rfl⟩
 ·rename_i n len; injection hp with hp; subst hp
  have main : ∀ (T : TypeId) (e : E) (o : aD), az h n = some o -> o.owner = true -> (∀ {A : Anchor} {ρ : ah} {w : World}, aE env A ρ h w -> (aD.rV T gF e).Rel env A ρ n w) -> (Hd c n T len e nx).bz env h (r, nx') h' ->
      nx <= nx' /\ ∀ ρ w vs, aE env w0 ρ h w -> (∀ n p, ρ n = some p -> n < nx) -> SV.aF env ρ [.sl n 1 (.il 0) len] vs ->
       Calls P f vs.toArray w fun e w' => ∃ ρ' v, e = .returned v /\ ρ.le ρ' /\ aE env w0 ρ' h' w' /\ (∀ n p, ρ' n = some p -> n < nx') /\ r.Rel env ρ' v := by
   intro T e o az ho' hbag hrun; simp only [Hd, run_bind, bX, bD, run_pure, Prod.mk.injEq] at hrun; obtain ⟨_, _, ⟨h1, rfl⟩, _, _, ⟨h2, rfl⟩, _, _, rfl, ⟨rfl, rfl⟩, rfl⟩ := hrun
   have hlen : (len.den env).I = ((e.den env).T.length : Int) := by
    rw [bq] at h1; have h1 : ((len.den env).I == ((gk .ab e).den env).I) = true := h1; rw [bA] at h1; exact eq_of_beq h1
   have hmax : (len.den env).I <= 4611686018427387903 := by
    rw [DI, dV] at h2; exact of_decide_eq_true h2
   refine ⟨Nat.le_refl _, fun ρ w vs H hn ha => ?_⟩; obtain ⟨p, l, cs, q1, q2, q3, q4, q5, q6⟩ := hbag H; simp only [SV.aF, SV.Rel] at ha; obtain ⟨v, q, rfl, ⟨p', A', g1, rfl, g2, g3, g4, g5⟩, rfl⟩ := ha; rw [q1] at g1; injection g1 with g1; subst g1; have hz0 : ((E.il 0).den env).I.toNat = 0 := rfl; rw [hz0] at g3 g4 ⊢; have hlN : (len.den env).I.toNat = l.length := by rw [hlen, Int.toNat_natCast, q6.1.length_eq]
   have put := fun k os => H.sorted (n := n) (c := c) (len := len) az ho' q1 q2 q3 q4 q5 q6 hlen hu k os; rcases Nat.eq_zero_or_pos l.length with h0 | h0
   ·rw [hlN, h0]; refine (wB hP hM ho w A' (p.cap - 0)).mono fun e w' hq => ?_; obtain ⟨rfl, K⟩ := hq; have H0 := put 0 #[]; have hl0 : l = [] := List.length_eq_zero_iff.1 h0; rw [hl0] at H0; simp only [List.map_nil, List.mergeSort_nil, grow_empty, ahead_zero, I0] at H0; exact ⟨ρ, _, rfl, ah.le_refl ρ, H0.stay K, hn, [], rfl, rfl⟩
   ·have hcap := q6.2.2.1; have hA := g3 (by omega)
    rw [q3, Nat.zero_mul] at hA; subst hA; have hd1 : gF.len = 1 := rfl
    have hH : Holds encStr w p.block 0 (l.map jG).toArray := by
     intro j hj; have hjl : j < l.length := by simpa using hj
     have := q6.2.2.2 j hjl; simp only [gF, aJ.Rel, DK.Rel, aJ.len] at this; obtain ⟨⟨v, v1, v2⟩, _⟩ := this; simp only [Nat.zero_add, Nat.mul_one, Nat.add_zero] at v1 v2; constructor
     ·show (match w.heap[p.block]? with | some (.cells c _ _) => c[0 + j]? | _ => none) = _
      rw [q5, Nat.zero_add]; show cs[j]? = _; rw [v1, v2]
      have : ((l.map jG).toArray)[j]! = jG l[j] := by
       rw [getElem!_pos _ j (by simpa using hjl)]
       simp
      rw [this]
      congr 1
      show Value.string _ = Value.string _
      have e1 : (Dv.t l).at j 0 = l[j].headD (.i 0) := by
       unfold Dv.at; simp only [Dv.T, List.getElem?_eq_getElem hjl, Option.getD_some]; cases l[j] <;> rfl
      rw [e1]; unfold jG; simp
     ·show World.frozen? w _ = false; simp [World.frozen?, q5]
    have hsz : (l.map jG).length < 4611686018427387904 := by simp; omega
    have hblk := (Array.getElem?_eq_some_iff.1 q5).1; have := hs p.block 0 (p.cap - 0) (l.map jG) w hH hblk hsz; rw [List.length_map] at this; rw [hlN]; refine this.mono fun e w' hq => ?_; obtain ⟨rfl, k, os, rfl⟩ := hq; exact ⟨ρ, _, rfl, ah.le_refl ρ, put k os, hn, [], rfl, rfl⟩
  simp only [run_bind, aX] at hr; obtain ⟨o, _, ⟨ho1, rfl⟩, hr⟩ := hr; split at hr
  ·rename_i T e; exact main T e _ ho1 rfl (fun H => H.bj n _ ho1) hr
  ·rename_i T rl e; simp only [run_bind, bX] at hr; obtain ⟨_, _, ⟨h1, rfl⟩, hr⟩ := hr; refine main T e _ ho1 rfl (fun H => ?_) hr
   have hrl : (rl.den env).I = ((e.den env).T.length : Int) := by
    rw [bq] at h1; have h1 : ((rl.den env).I == ((gk .ab e).den env).I) = true := h1; rw [bA] at h1; exact eq_of_beq h1
   have := aD.fJ env env id (A := _) (B := _) (fun _ h => h) (n := n) (m := n) (o := .row T 1 rl [.tc .str e 0] []) (o' := .rV T gF e) ⟨rfl, rfl, Nat.one_pos, rfl, e, rfl, hrl, List.Perm.refl _⟩ rfl rfl (H.bj n _ ho1); exact this
  ·exact hr.elim
 ·cases hp
end Go.Sx
namespace Go.Sx
open Go.RowKit cA
set_option linter.unusedVariables false
set_option linter.unusedSimpArgs false
def Co (P : Program) (o : Env) : List (FuncId × (List SV -> Nat -> Option (Prog (SV × Nat)))) -> Prop
 | [] => True
 | x :: l => dZ P o x.1 x.2 /\ Co P o l
def Ds (P : Program) (o : Env) : List (FuncId × Nat × (Fr -> Nat -> Option (Prog (eQ × Fr × Nat)))) -> Prop
 | [] => True
 | x :: l => dz P o x.1 x.2.1 x.2.2 /\ Ds P o l
theorem Co.mem {P : Program} {o : Env} : ∀ {l : List (FuncId × (List SV -> Nat -> Option (Prog (SV × Nat))))}, Co P o l -> ∀ x ∈ l, dZ P o x.1 x.2
 | [], _, x, hx => by cases hx
 | y :: l, ⟨h, k⟩, x, hx => by
   rcases List.mem_cons.1 hx with rfl | hx
   ·exact h
   ·exact k.mem x hx
theorem Ds.mem {P : Program} {o : Env} : ∀ {l : List (FuncId × Nat × (Fr -> Nat -> Option (Prog (eQ × Fr × Nat))))}, Ds P o l -> ∀ x ∈ l, dz P o x.1 x.2.1 x.2.2
 | [], _, x, hx => by cases hx
 | y :: l, ⟨h, k⟩, x, hx => by
   rcases List.mem_cons.1 hx with rfl | hx
   ·exact h
   ·exact k.mem x hx
theorem br {P : Program} {o : Env} {c : gX} (hap : c.UW.all (fun x => kT P x.1) = true) (hf : Co P o c.fns) (hl : Ds P o c.UW) (A : Anchor) : ez P o A (c.x.cN P) := gX.ok hap hf.mem hl.mem A
theorem pH {P : Program} {o : Env} {c : gX} (hap : c.UW.all (fun x => kT P x.1) = true) (hf : Co P o c.fns) (hl : Ds P o c.UW) (A : Anchor) : ez P o A (c.x.xe.cN P) := gX.ok hap hf.mem hl.mem A
theorem E.nr {e e' : Env} (hv : e.v = e'.v) (hf : e.fn = e'.fn) (hu : e.uf = e'.uf) : ∀ x : E, x.den e = x.den e'
 | .v n => congrFun hv n
 | .il _ => rfl
 | .bl _ => rfl
 | .sl _ => rfl
 | .fn c a => by show e.fn c _ = e'.fn c _; rw [hf, E.nr hv hf hu a]
 | .uf c a => by show e.uf c _ = e'.uf c _; rw [hu, E.nr hv hf hu a]
 | .o1 o a => by show o.den _ = o.den _; rw [E.nr hv hf hu a]
 | .o2 o a b => by show o.den _ _ = o.den _ _; rw [E.nr hv hf hu a, E.nr hv hf hu b]
 | .ext a b c => by simp only [E.den, E.nr hv hf hu a, E.nr hv hf hu b, E.nr hv hf hu c]
theorem gT (D : ak) {e : Env} {u : Nat -> Value} {i : Nat} {x : E} (h : x.dw D.r = true) : x.den (D.env e u i) = x.den e := by
 rw [E.nr (e := D.env e u i) (e' := yF e D.r (.i i)) rfl rfl rfl x]; exact E.bF (Dq e D.r (.i i)) h
theorem fN (D : ak) {e : Env} {u : Nat -> Value} {i : Nat} {fs : aa} (h : II D.r fs = true) (hf : fs.ay e) : fs.ay (D.env e u i) := fun x b hm => by
 rw [gT D (List.all_eq_true.1 h _ hm)]; exact hf x b hm
theorem eb (D : ak) {e : Env} {u : Nat -> Value} {i : Nat} : (D.env e u i).v D.r = .i i := by
 show (if D.r = D.r then _ else _) = _
 rw [if_pos rfl]
structure gH (P : Program) (D : ak) (aB : E) (L : List (aa × List Ob)) : Prop where
 ob : D.iK P 0 = some L
 body : ((P.funcs[D.f]?).bind (·.body)).isSome = true
 fs : (D.hd 0).fs = (.o2 .le (.il 0) (.v D.r), true) :: (.o2 .le (.v D.r) aB, true) :: D.aU 0
 no : (II D.r (D.aU 0) && aB.dw D.r) = true
 lt : D.lt = .o2 .lt (.v D.r) aB
 k : ∀ m, D.mS m = true -> m = 0
 t : ∀ m, D.ll m = true -> m = 0
 hx : ∀ ν, ((D.hx ν).h.all fun x => bW x.2) = true
theorem gH.ok {P : Program} (hP : Plain P) (hM : P.follows .mixedOrders = true) {D : ak} {aB : E} {L : List (aa × List Ob)} (C : gH P D aB L) {env : Env}
    (hnn : ∀ o, o.uf = env.uf -> (D.aU 0).ay o -> 0 <= (aB.den o).I)
    (hX : ∀ o A, o.uf = env.uf -> ez P o A (D.X.cN P))
    (hL : ∀ o (i : Nat), o.uf = env.uf -> (D.aU 0).ay o -> o.v D.r = .i i -> (i : Int) <= (aB.den o).I -> bn o L) : dz P env D.f D.key D.cW := by
 have hno := C.no; rw [Bool.and_eq_true] at hno
 have hln : ∀ {e' : Env} {u : Nat -> Value} {i : Nat}, D.aU 0 |>.ay e' -> ak.jK D env e' -> i <= (aB.den e').I.toNat -> (i : Int) <= (aB.den (D.env e' u i)).I := fun {e' u i} h he hi => by
  rw [gT D hno.2]; have := hnn e' he.uf h; omega
 refine Fl hP hM C.body (fun e => (aB.den e).I.toNat) C.ob C.k C.t C.hx (fun e' i u A he _ _ => hX _ A he.uf) (fun e' he h i u hi => hL _ i he.uf (fN D hno.1 h) (eb D) (hln h he hi)) (fun e' he h i u hi => ?_) (fun e' he h i u hi hl => ?_)
 ·rw [C.fs]; refine bS.2 ⟨?_, bS.2 ⟨?_, fN D hno.1 h⟩⟩
  ·rw [rW, wV, GQ, eb]; exact decide_eq_true (Int.natCast_nonneg i)
  ·rw [rW, GQ, eb]; exact decide_eq_true (hln h he hi)
 ·rw [C.lt, Dn, GQ, eb, gT D hno.2] at hl; have hl := of_decide_eq_true hl; have : (Dv.i (i : Int)).I = i := rfl; omega
structure Gn (P : Program) (D : ak) (aB : E) (L0 L1 : List (aa × List Ob)) : Prop where
 NT : D.iK P 0 = some L0
 YO : D.iK P 1 = some L1
 body : ((P.funcs[D.f]?).bind (·.body)).isSome = true
 fs0 : (D.hd 0).fs = (.o2 .aN (.v D.r) (.il 0), true) :: (.o2 .le (.il 0) (.v D.r), true) :: (.o2 .le (.v D.r) aB, true) :: D.aU 0
 Cd : (D.hd 1).fs = (.o2 .lt (.il 0) (.v D.r), true) :: (.o2 .le (.il 0) (.v D.r), true) :: (.o2 .le (.v D.r) aB, true) :: D.aU 0
 no : (II D.r (D.aU 0) && aB.dw D.r) = true
 lt : D.lt = .o2 .lt (.v D.r) aB
 k : ∀ m, D.mS m = true -> m = 0
 t : ∀ m, D.ll m = true -> m = 1
 hx : ∀ ν, ((D.hx ν).h.all fun x => bW x.2) = true
theorem Gn.ok {P : Program} (hP : Plain P) (hM : P.follows .mixedOrders = true) {D : ak} {aB : E} {L0 L1 : List (aa × List Ob)} (C : Gn P D aB L0 L1) {env : Env}
    (hnn : ∀ o, o.uf = env.uf -> (D.aU 0).ay o -> 0 <= (aB.den o).I)
    (hX : ∀ o A, o.uf = env.uf -> ez P o A (D.X.cN P))
    (hL0 : ∀ o, o.uf = env.uf -> (D.aU 0).ay o -> o.v D.r = .i (0 : Nat) -> 0 <= (aB.den o).I -> bn o L0)
    (hL1 : ∀ o (i : Nat), o.uf = env.uf -> (D.aU 0).ay o -> o.v D.r = .i i -> 0 < i -> (i : Int) <= (aB.den o).I -> bn o L1) : dz P env D.f D.key D.cW := by
 have hno := C.no; rw [Bool.and_eq_true] at hno
 have hln : ∀ {e' : Env} {u : Nat -> Value} {i : Nat}, D.aU 0 |>.ay e' -> ak.jK D env e' -> i <= (aB.den e').I.toNat -> (i : Int) <= (aB.den (D.env e' u i)).I := fun {e' u i} h he hi => by
  rw [gT D hno.2]; have := hnn e' he.uf h; omega
 refine VY hP hM C.body (fun e => (aB.den e).I.toNat) C.NT C.YO C.k C.t C.hx (fun e' i u A he _ _ => hX _ A he.uf)
  (fun e' he h u => hL0 _ he.uf (fN D hno.1 h) (eb D) (by rw [gT D hno.2]; exact hnn e' he.uf h))
  (fun e' he h i u h0 hi => hL1 _ i he.uf (fN D hno.1 h) (eb D) h0 (hln h he hi)) (fun e' he h u => ?_) (fun e' he h i u h0 hi => ?_) (fun e' he h i u hi hl => ?_)
 ·rw [C.fs0]; refine bS.2 ⟨?_, bS.2 ⟨?_, bS.2 ⟨?_, fN D hno.1 h⟩⟩⟩
  ·rw [Lg, wV, GQ, eb]; exact decide_eq_true rfl
  ·rw [rW, wV, GQ, eb]; exact decide_eq_true (Int.natCast_nonneg 0)
  ·rw [rW, GQ, eb]; exact decide_eq_true (hln h he (Nat.zero_le _))
 ·rw [C.Cd]; refine bS.2 ⟨?_, bS.2 ⟨?_, bS.2 ⟨?_, fN D hno.1 h⟩⟩⟩
  ·rw [Dn, wV, GQ, eb]; exact decide_eq_true (by show (0 : Int) < (i : Int); omega)
  ·rw [rW, wV, GQ, eb]; exact decide_eq_true (Int.natCast_nonneg i)
  ·rw [rW, GQ, eb]; exact decide_eq_true (hln h he hi)
 ·rw [C.lt, Dn, GQ, eb, gT D hno.2] at hl; have hl := of_decide_eq_true hl; have : (Dv.i (i : Int)).I = i := rfl; omega
structure Pt (P : Program) (D : ak) (aB : E) (L : Nat -> List (aa × List Ob)) : Prop where
 ob : ∀ m, (D.mS m || D.ll m) = true -> D.iK P m = some (L m)
 body : ((P.funcs[D.f]?).bind (·.body)).isSome = true
 fs : ∀ m, (D.hd m).fs = D.mf m ++ (.o2 .le (.il 0) (.v D.r), true) :: (.o2 .le (.v D.r) aB, true) :: D.aU 0
 aU : ∀ m, D.aU m = D.aU 0
 no : (II D.r (D.aU 0) && aB.dw D.r) = true
 lt : D.lt = .o2 .lt (.v D.r) aB
 hx : ∀ ν, ((D.hx ν).h.all fun x => bW x.2) = true
theorem Pt.ok {P : Program} (hP : Plain P) (hM : P.follows .mixedOrders = true) {D : ak} {aB : E} {L : Nat -> List (aa × List Ob)} (C : Pt P D aB L) {env : Env}
    (hnn : ∀ o, o.uf = env.uf -> (D.aU 0).ay o -> 0 <= (aB.den o).I)
    (hX : ∀ o A, o.uf = env.uf -> ez P o A (D.X.cN P))
    (hL : ∀ o (i m : Nat), o.uf = env.uf -> (D.aU 0).ay o -> (D.mf m).ay o -> (D.mS m || D.ll m) = true -> o.v D.r = .i i -> (i : Int) <= (aB.den o).I -> bn o (L m)) : dz P env D.f D.key D.cW := by
 have hno := C.no; rw [Bool.and_eq_true] at hno
 have hln : ∀ {e' : Env} {u : Nat -> Value} {i : Nat}, D.aU 0 |>.ay e' -> ak.jK D env e' -> i <= (aB.den e').I.toNat -> (i : Int) <= (aB.den (D.env e' u i)).I := fun {e' u i} h he hi => by
  rw [gT D hno.2]; have := hnn e' he.uf h; omega
 refine ak.F7 hP hM C.body (fun e' he μ0 h0 hent => ?_) C.hx; rw [C.aU] at hent
 refine ⟨⟨(aB.den e').I.toNat, fun u i μ => (D.mS μ || D.ll μ) = true /\ (D.mf μ).ay (D.env e' u i), L, fun i u A _ => hX _ A he.uf, fun u i μ hm => C.ob μ hm.1,
  fun i μ u hm hi x hx hfx => iA (hL (D.env e' u i) i μ he.uf (fN D hno.1 hent) hm.2 hm.1 (eb D) (hln hent he hi)) x hx hfx, fun i μ u hm hi => ?_, fun i u hi hl => ?_,
  fun u i μ μ' hm ht hmf _ => ⟨μ', ⟨by rw [ht, Bool.or_true], hmf⟩, gz.refl _⟩, fun u hmf => ⟨μ0, ⟨by rw [h0, Bool.true_or], hmf⟩, gz.refl _⟩⟩⟩
 ·rw [C.fs]; refine jD hm.2 (bS.2 ⟨?_, bS.2 ⟨?_, fN D hno.1 hent⟩⟩)
  ·rw [rW, wV, GQ, eb]; exact decide_eq_true (Int.natCast_nonneg i)
  ·rw [rW, GQ, eb]; exact decide_eq_true (hln hent he hi)
 ·rw [C.lt, Dn, GQ, eb, gT D hno.2] at hl; have hl := of_decide_eq_true hl; have : (Dv.i (i : Int)).I = i := rfl; omega
theorem cv {P : Program} (hP : Plain P) (hM : P.follows .mixedOrders = true) {D : cA} {env : Env} {L : List (aa × List Ob)} (nW : D.iK P = some L)
    (hX : ∀ o A, o.uf = env.uf -> ez P o A (D.X.cN P)) (hL : ∀ o, o.uf = env.uf -> D.aU.ay o -> bn o L) : dZ P env D.f D.aS :=
 Xe hP hM nW (fun e' A he => hX e' A he.uf) (fun e' he => hL e' he.uf)
def VK (r : Nat) (m : Nat) (aB : E) : aa := (match m with | 0 => (.o2 .aN (.v r) (.il 0), true) | _ => (.o2 .lt (.il 0) (.v r), true)) :: (.o2 .le (.il 0) (.v r), true) :: [(.o2 .le (.v r) aB, true)]
def Bf (f key N r : Nat) (J : List Nat) (fx : List (Nat × SV)) (out idx T : Nat) (dks : aJ) (res aB : E) (aU : aa) (params : List Nat) (X : dg) (ex : Nat) (bj : aR := []) : ak where
 f := f; key := key; N := N; r := r; base := 5000 + 1000 * (r - 2000)
 js := J
 hd := fun m => ⟨fx ++ [(out, match m with | 0 => .bO | _ => .sl 8 dks.len (.il 0) (.v r)), (idx, .int .i64 (.v r))], (match m with | 0 => bj | _ => (8, .row T dks.len (.v r) (b8 dks res 0) []) :: bj), 9, VK r m aB ++ aU⟩
 aU := fun _ => aU
 app := fun _ => true
 mS := fun m => Nat.beq m 0
 dD := fun sl => match nth sl out with | some .bO => .ret 0 | some (.sl ..) => .ret 1 | _ => .fail
 ll := fun m => Nat.beq m 1
 mf := fun _ => []
 hx := fun _ => ⟨fx ++ [(out, .bQ dks res), (idx, .top)], bj, 9, []⟩
 sQ := fun _ _ => .ret 0
 nU := fun _ => .exit ex
 bp := [(.bl true, 0)]
 fixed := bj.map (·.1)
 lt := .o2 .lt (.v r) aB
 X := X
 fuel := 300; np := 80
 params := params
 xR := [(T, dks)]
end Go.Sx
namespace Go.Proofs.YtdlppkhmmclipaaGreat
abbrev la : Nat := 35
abbrev mY : Nat := 36
abbrev im : Nat := 47
abbrev kV : Nat := 38
abbrev vw : Nat := 68
abbrev tz : Nat := 48
abbrev ML : Nat := 39
abbrev ua : Nat := 27
abbrev ig : Nat := 13
abbrev iC : Nat := 14
abbrev ml : Nat := 61
abbrev mT : Nat := 62
abbrev kP : Nat := 64
abbrev rI : Nat := 15
abbrev eO : Nat := 31
abbrev pq : Nat := 65
abbrev BO : Nat := 86
abbrev CT : Nat := 69
abbrev Ql : Nat := 89
abbrev fc : Nat := 96
abbrev iZ : Nat := 108
abbrev cH : Nat := 109
abbrev Hm : Nat := 116
abbrev Gm : Nat := 83
abbrev Q0 : Nat := 82
abbrev BI : Nat := 159
abbrev Lx : Nat := 160
abbrev By : Nat := 133
abbrev qf : Nat := 30
abbrev rG : Nat := 9
abbrev LD : Nat := 20
abbrev EU : Nat := 155
abbrev kX : Nat := 37
abbrev aay : Nat := 3
end Go.Proofs.YtdlppkhmmclipaaGreat
namespace Go.Proofs.YtdlppkhmmclipaaGreat.sxObj
open Go.Sx Go.RowKit Go.Proofs.YtdlppkhmmclipaaGreat
set_option linter.unusedVariables false
def ke (a b : Nat) : List Nat := (List.range (b - a)).map (· + a)
def gI : aJ := .cons .str (.cons .str .nil)
def dm : aJ := .cons .str (.cons .str (.cons .str (.cons .str (.cons (.sl gI) (.cons .str (.cons .bool (.cons .bool .nil)))))))
def oK : aJ := .cons .str (.cons .str (.cons .str (.cons .str (.cons (.sl gI) (.cons .str (.cons .bool (.cons .bool (.cons .nilm .nil))))))))
def aC : DK := .ei Q0 (.fp oK)
def aK : aJ := .cons aC .nil
def FW (e : Nat -> E) (lab : SV) : List SV := [.str (e 0), .str (e 1), .str (e 2), .str (e 3), lab, .str (e 5), .bool (e 6), .bool (e 7)]
def qO (e : Nat -> E) : List SV := FW e (.bQ gI (e 4))
def vE (b j : Nat) : E := .v (b + j)
def cE (x i : E) (j : Nat) : E := .o2 (.cell j) x i
def pk8 (e : Nat -> E) : List E := [e 0, e 1, e 2, e 3, e 4, e 5, e 6, e 7]
def FR (e : Nat -> E) : E := .uf 110 (pk [e 0, e 1, e 4])
def vj (l : E) : E := .uf 111 (pk [l])
def s4 (e : Nat -> E) : E := .uf 100 (pk [e 0, e 1])
def aB (l : E) : E := .o1 .ab l
def inE (e : Nat -> E) : E := rowOf [e 0, e 1, e 2, e 3, e 4, e 5, e 6, e 7, .il 0]
def A6 : ak where
 f := la; key := 3; N := 43; r := 2100; base := 105000
 js := ke 21 42
 hd := fun m => ⟨[(1, .ptr 1 (.c 0)), (3, .ptr 2 (.c 0)), (4, .int .i64 (.v 2100))],
  (match m with | 0 => [] | _ => [(8, .row Lx 2 (.v 2100) (b8 gI (.v 7104) 0) [])]) ++
  [(2, .cells BI (FW (vE 7100) (match m with | 0 => .bO | _ => .sl 8 2 (.il 0) (.v 2100)) ++ [.cB])), (1, .cells qf (qO (vE 7100)))], 9,
  VK 2100 m (aB (.v 7104)) ++ [(.o2 .le (aB (.v 7104)) (.il 2147483647), true)]⟩
 aU := fun _ => [(.o2 .le (aB (.v 7104)) (.il 2147483647), true)]
 app := fun _ => true
 mS := fun m => Nat.beq m 0
 dD := fun sl => match nth sl 3 with | some (.ptr n _) => .get n fun o => (match o with | .cells _ cs => (match nth cs 4 with | some .bO => .ret 0 | some (.sl ..) => .ret 1 | _ => .fail) | _ => .fail) | _ => .fail
 ll := fun m => Nat.beq m 1
 mf := fun _ => []
 hx := fun _ => ⟨[(1, .ptr 1 (.c 0)), (3, .ptr 2 (.c 0)), (4, .top)], [(2, .cells BI (qO (vE 7100) ++ [.cB])), (1, .cells qf (qO (vE 7100)))], 9, []⟩
 sQ := fun _ _ => .ret 0
 nU := fun _ => .exit 0
 bp := [(.bl true, 0)]
 fixed := [1, 2]
 lt := .o2 .lt (.v 2100) (aB (.v 7104))
 X := dg.none
 fuel := 300; np := 80
 params := ke 7100 7108
 xR := [(Lx, gI)]
def l9 : cA where
 f := la
 args := [.agg (qO (vE 7110))]
 params := ke 7110 7118
 aU := [(FR (vE 7110), true)]
 app := fun _ => true
 xR := [(BI, oK)]
 bp := [(.bl true, 0)]
 kind := fun _ => some 0
 out := fun _ => .dH oK (inE (vE 7110)) (.il 0) 0
 X := (⟨[], [(la, 3, A6.cW)]⟩ : gX).x
 fuel := 300; np := 80
def lO : ak := Bf mY 3 21 2101 (ke 5 20) [(0, .bQ dm (.v 7120))] 3 4 LD aK (.uf 101 (pk [.v 7120])) (aB (.v 7120)) [(vj (.v 7120), true), (.o2 .le (aB (.v 7120)) (.il 2147483647), true)] [7120] (⟨[(la, l9.aS)], []⟩ : gX).x 0
def vq : cA where
 f := mY
 args := [.bQ dm (.v 7121)]
 params := [7121]
 aU := [(vj (.v 7121), true), (.o2 .le (aB (.v 7121)) (.il 2147483647), true)]
 app := fun _ => true
 bp := [(.bl true, 0)]
 kind := fun _ => some 0
 out := fun _ => .bQ aK (.uf 101 (pk [.v 7121]))
 X := (⟨[], [(mY, 3, lO.cW)]⟩ : gX).x
 fuel := 300; np := 80
def x0 : E := .v 7130
def i0 : E := .v 7131
def vk : ak where
 f := im; key := 9; N := 84; r := 2102; base := 107000
 js := ke 62 83
 hd := fun m => ⟨[(3, .dH oK x0 i0 0), (7, .ptr 1 (.c 0)), (8, .int .i64 (.v 2102))],
  (match m with | 0 => [] | _ => [(8, .row By 2 (.v 2102) (b8 gI (cE x0 i0 4) 0) [])]) ++
  [(1, .cells qf (FW (cE x0 i0) (match m with | 0 => .bO | _ => .sl 8 2 (.il 0) (.v 2102))))], 9,
  VK 2102 m (aB (cE x0 i0 4)) ++ [(.o2 .le (aB (cE x0 i0 4)) (.il 2147483647), true)]⟩
 aU := fun _ => [(.o2 .le (aB (cE x0 i0 4)) (.il 2147483647), true)]
 app := fun _ => true
 mS := fun m => Nat.beq m 0
 dD := fun sl => match nth sl 7 with | some (.ptr n _) => .get n fun o => (match o with | .cells _ cs => (match nth cs 4 with | some .bO => .ret 0 | some (.sl ..) => .ret 1 | _ => .fail) | _ => .fail) | _ => .fail
 ll := fun m => Nat.beq m 1
 mf := fun _ => []
 hx := fun _ => ⟨[(3, .dH oK x0 i0 0), (7, .ptr 1 (.c 0)), (8, .top)], [(1, .cells qf (qO (cE x0 i0)))], 9, []⟩
 sQ := fun _ _ => .ret 0
 nU := fun _ => .exit 0
 bp := [(.bl true, 0)]
 fixed := [1]
 lt := .o2 .lt (.v 2102) (aB (cE x0 i0 4))
 X := dg.none
 fuel := 300; np := 80
 params := [7130, 7131]
 xR := [(By, gI)]
def PI (x i : Nat) : SV := .ei Q0 (.dH oK (.v x) (.v i) 0)
def ja : cA where
 f := im
 args := [PI 7135 7136]
 params := [7135, 7136]
 aU := [(FR (cE (.v 7135) (.v 7136)), true)]
 app := fun _ => true
 bp := [(.bl true, 0)]
 kind := fun _ => some 0
 out := fun _ => .agg (qO (cE (.v 7135) (.v 7136)))
 X := (⟨[], [(im, 9, vk.cW)]⟩ : gX).x
 fuel := 300; np := 80
def M1 : List UInt8 := [111, 98, 106, 101, 99, 116, 32, 104, 97, 115, 32, 110, 111, 32, 109, 101, 116, 97, 58, 32, 46, 46]
def sd : cA where
 f := ua
 args := [PI 7140 7141]
 params := [7140, 7141]
 aU := [(FR (cE (.v 7140) (.v 7141)), true)]
 app := fun args => match args with | [.ei t (.dH ..)] => Nat.beq t Q0 | _ => false
 bp := [(cE (.v 7140) (.v 7141) 6, 1), (.bl true, 0)]
 kind := fun r => match r with | .fk [_, .dR] => some 0 | .fk [_, .ei ..] => some 1 | _ => none
 out := fun n => match n with | 0 => .fk [.str (s4 (cE (.v 7140) (.v 7141))), .dR] | _ => .fk [.str (.sl []), .ei EU (.str (.sl M1))]
 X := dg.none
 fuel := 300; np := 80
def qK : cA where
 f := tz
 args := [.agg (qO (vE 7150))]
 params := ke 7150 7158
 aU := [(FR (vE 7150), true)]
 app := fun _ => true
 bp := [(.v 7156, 1), (.bl true, 0)]
 kind := fun r => match r with | .fk [_, .bool (.bl true)] => some 0 | .fk [_, .bool (.bl false)] => some 1 | _ => none
 out := fun n => match n with | 0 => .fk [.str (s4 (vE 7150)), .bool (.bl true)] | _ => .fk [.str (.sl []), .bool (.bl false)]
 X := (⟨[(la, l9.aS), (ua, sd.aS)], []⟩ : gX).x
 fuel := 300; np := 80
def fv : cA where
 f := ig
 args := [.agg (qO (vE 7160))]
 params := ke 7160 7168
 aU := [(FR (vE 7160), true)]
 app := fun _ => true
 bp := [(.v 7166, 1), (.bl true, 0)]
 kind := fun r => match r with | .fk [_, .bool (.bl true)] => some 0 | .fk [_, .bool (.bl false)] => some 1 | _ => none
 out := fun n => match n with | 0 => .fk [.str (s4 (vE 7160)), .bool (.bl true)] | _ => .fk [.str (.sl []), .bool (.bl false)]
 X := dg.none
 fuel := 300; np := 80
def Oa : E := pk [.v 7170, .v 7171]
def pN : ak where
 f := iC; key := 2; N := 32; r := 2103; base := 108000
 js := [6, 7, 8, 9] ++ ke 13 30
 hd := fun _ => ⟨[(1, .str (.v 7171)), (4, .int .i64 (.il 0)), (5, .bool (.bl false)), (10, .bQ dm (.v 7170)), (11, .int .i64 (aB (.v 7170))), (12, .int .i64 (.v 2103))], [], 9,
  (.o2 .le (.il 0) (.v 2103), true) :: (.o2 .le (.v 2103) (.uf 104 Oa), true) :: [(vj (.v 7170), true), (.o2 .le (aB (.v 7170)) (.il 1000000), true)]⟩
 aU := fun _ => [(vj (.v 7170), true), (.o2 .le (aB (.v 7170)) (.il 1000000), true)]
 app := fun _ => true
 mS := fun m => Nat.beq m 0
 dD := fun _ => .ret 0
 ll := fun m => Nat.beq m 0
 mf := fun _ => []
 hx := fun n => match n with
  | 1 => ⟨[(1, .top), (4, .int .i64 (.uf 104 Oa)), (5, .bool (.uf 105 Oa)), (10, .top), (11, .top), (12, .top)], [], 9, []⟩
  | _ => ⟨[(1, .str (.v 7171)), (4, .int .i64 (.il 0)), (5, .bool (.bl false)), (10, .bQ dm (.v 7170)), (11, .int .i64 (aB (.v 7170))), (12, .top)], [], 9, []⟩
 sQ := fun ex _ => match ex with | .ret => .ret 1 | _ => .ret 0
 nU := fun n => match n with | 1 => .ret | _ => .exit 0
 bp := [(.o2 .lt (.uf 104 Oa) (aB (.v 7170)), 1), (.bl true, 0)]
 fixed := []
 lt := .o2 .lt (.v 2103) (.uf 104 Oa)
 X := (⟨[(ig, fv.aS)], []⟩ : gX).x
 fuel := 300; np := 80
 params := [7170, 7171]
def lv : cA where
 f := iC
 args := [.bQ dm (.v 7173), .str (.v 7174)]
 params := [7173, 7174]
 aU := [(vj (.v 7173), true), (.o2 .le (aB (.v 7173)) (.il 1000000), true)]
 app := fun _ => true
 bp := [(.bl true, 0)]
 kind := fun _ => some 0
 out := fun _ => .fk [.int .i64 (.uf 104 (pk [.v 7173, .v 7174])), .bool (.uf 105 (pk [.v 7173, .v 7174]))]
 X := (⟨[], [(iC, 2, pN.cW)]⟩ : gX).x
 fuel := 300; np := 80
def gP : cA where
 f := ml
 args := [.bQ dm (.v 7180), .agg (qO (vE 7181))]
 params := ke 7180 7189
 aU := [(vj (.v 7180), true), (FR (vE 7181), true), (.v 7187, false), (.o2 .le (aB (.v 7180)) (.il 1000000), true)]
 app := fun _ => true
 xR := [(qf, dm)]
 bp := [(.bl true, 0)]
 kind := fun _ => some 0
 out := fun _ => .bQ dm (.uf 107 (pk (.v 7180 :: pk8 (vE 7181))))
 X := (⟨[(ig, fv.aS), (iC, lv.aS)], []⟩ : gX).x
 fuel := 300; np := 80
def fS : cA where
 f := mT
 args := [.bQ dm (.v 7190), .str (.v 7191)]
 params := [7190, 7191]
 aU := [(vj (.v 7190), true), (.o2 .le (aB (.v 7190)) (.il 1000000), true)]
 app := fun _ => true
 xR := [(qf, dm)]
 bp := [(.bl true, 0)]
 kind := fun _ => some 0
 out := fun _ => .bQ dm (.uf 108 (pk [.v 7190, .v 7191]))
 X := (⟨[(iC, lv.aS)], []⟩ : gX).x
 fuel := 300; np := 80
def jx : ak := Bf kP 3 25 2104 ([5, 6, 7] ++ ke 11 24) [(8, .bQ dm (.v 7195)), (9, .int .i64 (aB (.v 7195)))] 3 10 rG gF (.uf 103 (pk [.v 7195])) (aB (.v 7195)) [(vj (.v 7195), true), (.o2 .le (aB (.v 7195)) (.il 1000000), true)] [7195] (⟨[(ig, fv.aS)], []⟩ : gX).x 0
def rP : cA where
 f := kP
 args := [.bQ dm (.v 7196)]
 params := [7196]
 aU := [(vj (.v 7196), true), (.o2 .le (aB (.v 7196)) (.il 1000000), true)]
 app := fun _ => true
 bp := [(.bl true, 0)]
 kind := fun _ => some 0
 out := fun _ => .bQ gF (.uf 103 (pk [.v 7196]))
 X := (⟨[], [(kP, 3, jx.cW)]⟩ : gX).x
 fuel := 300; np := 80
def Hw : cA where
 f := ML
 args := [.bQ gF (.v 7198)]
 params := [7198]
 aU := [(.o2 .le (aB (.v 7198)) (.il 1000000), true)]
 app := fun _ => true
 xR := [(rG, gF)]
 bp := [(.bl true, 0)]
 kind := fun _ => some 0
 out := fun _ => .bQ gF (.uf 106 (pk [.v 7198]))
 X := (⟨[(CT, zk 106)], []⟩ : gX).x
 fuel := 300; np := 80
end Go.Proofs.YtdlppkhmmclipaaGreat.sxObj
namespace Go.Sx
open Go.RowKit
set_option linter.unusedVariables false
set_option linter.unusedSimpArgs false
def ar (d : Dv) (k : Nat) : Dv := cc (row d 0) k
theorem agD {a b : Dv} : ar (O2.den .b9 a b) 0 = a := id rfl
theorem agi {a b c : Dv} : ar (O2.den .b9 a (O2.den .b9 b c)) 1 = b := id rfl
theorem agd {a b c d : Dv} : ar (O2.den .b9 a (O2.den .b9 b (O2.den .b9 c d))) 2 = c := id rfl
theorem af6 {a b c d e : Dv} : ar (O2.den .b9 a (O2.den .b9 b (O2.den .b9 c (O2.den .b9 d e)))) 3 = d := id rfl
theorem agx {a b c d e f : Dv} : ar (O2.den .b9 a (O2.den .b9 b (O2.den .b9 c (O2.den .b9 d (O2.den .b9 e f))))) 4 = e := id rfl
theorem afW {a b c d e f g : Dv} : ar (O2.den .b9 a (O2.den .b9 b (O2.den .b9 c (O2.den .b9 d (O2.den .b9 e (O2.den .b9 f g)))))) 5 = f := id rfl
theorem agh {a b c d e f g h : Dv} : ar (O2.den .b9 a (O2.den .b9 b (O2.den .b9 c (O2.den .b9 d (O2.den .b9 e (O2.den .b9 f (O2.den .b9 g h))))))) 6 = g := id rfl
theorem ag3 {a b c d e f g h i : Dv} : ar (O2.den .b9 a (O2.den .b9 b (O2.den .b9 c (O2.den .b9 d (O2.den .b9 e (O2.den .b9 f (O2.den .b9 g (O2.den .b9 h i)))))))) 7 = h := id rfl
theorem afQ {a b c d e f g h i j : Dv} : ar (O2.den .b9 a (O2.den .b9 b (O2.den .b9 c (O2.den .b9 d (O2.den .b9 e (O2.den .b9 f (O2.den .b9 g (O2.den .b9 h (O2.den .b9 i j))))))))) 8 = i := id rfl
theorem afz {env : Env} {q : KQ} {a b : E} : (E.o2 (.mf q) a b).den env = .i (aQ q (b.den env) (a.den env).T) := id rfl
theorem aa6 {env : Env} {q : KQ} {a b : E} : ((E.o2 (.mf q) a b).den env).I = aQ q (b.den env) (a.den env).T := id rfl
theorem adv {env : Env} {a b : E} : (E.o2 .mul a b).den env = .i ((a.den env).I * (b.den env).I) := id rfl
theorem aeE {env : Env} {a b : E} : (E.o2 .sub a b).den env = .i ((a.den env).I - (b.den env).I) := id rfl
theorem afZ {env : Env} {a b : E} : (E.o2 .mn a b).den env = .i (if (b.den env).I < (a.den env).I then (b.den env).I else (a.den env).I) := id rfl
theorem abh {env : Env} {a b : E} : (E.o2 .cat a b).den env = .s ((a.den env).S ++ (b.den env).S) := id rfl
theorem ZF {env : Env} {q : KQ} {a b : E} : ((E.o2 (.mp q) a b).den env).T = jI q (a.den env).T (b.den env).row := id rfl
theorem aah {env : Env} {q : KQ} {a b : E} : ((E.o2 (.md q) a b).den env).T = nV q (a.den env).T (b.den env) := id rfl
theorem Oi {env : Env} {a b : E} : ((E.o2 .fy a b).den env).T = (a.den env).T.set ((b.den env).row.headD (.i 0)).I.toNat (b.den env).row.tail := id rfl
theorem Ux {env : Env} {a b : E} : (E.o2 .fy a b).den env = .t ((a.den env).T.set ((b.den env).row.headD (.i 0)).I.toNat (b.den env).row.tail) := id rfl
theorem Ya {env : Env} {a b : E} : (E.o2 .fR a b).den env = .t ((a.den env).T ++ (b.den env).T) := id rfl
theorem V7 {env : Env} {a b : E} : (E.o2 .n5 a b).den env = .t ((a.den env).T.drop (b.den env).I.toNat) := id rfl
theorem OT {a b : Dv} : (O2.den .b9 a b).row = a :: b.row := id rfl
theorem Y3 {z : Int} : (Dv.i z).row = [] := id rfl
theorem X9 {env : Env} {a b : E} : ((E.o2 .slt a b).den env).B = dq (a.den env).S (b.den env).S := id rfl
theorem agk {env : Env} {a b : E} : (Ob.p a b).den env ↔ (a.den env).T.Perm (b.den env).T := Iff.rfl
theorem agW {a : Dv} {l : List Dv} : cc (a :: l) 0 = a := id rfl
theorem afS {a b : Dv} {l : List Dv} : cc (a :: b :: l) 1 = b := id rfl
theorem agb {a b c : Dv} {l : List Dv} : cc (a :: b :: c :: l) 2 = c := id rfl
theorem Zx {a b : Dv} : row (O2.den .b9 a b) 0 = a :: b.row := id rfl
theorem qS {r : Nat} : ((r : Int) + 1).toNat = r + 1 := by omega
theorem Kd {d : Dv} {n : Nat} (h : n < d.T.length) : d.T[n]? = some (row d n) := by
 unfold row; rw [List.getElem?_eq_getElem h]; rfl
theorem iB {l : List (List Dv)} {f : List Dv -> List Dv} {n : Nat} (h : n < l.length) : row (.t (l.map f)) n = f (row (.t l) n) := by
 unfold row; simp only [Dv.T, List.getElem?_map, List.getElem?_eq_getElem h, Option.map_some, Option.getD_some]
theorem ef {d : Dv} {n : Nat} (h : n < d.T.length) : row d n ∈ d.T := List.mem_of_getElem? (Kd h)
theorem mem_row {d : Dv} {r : List Dv} (h : r ∈ d.T) : ∃ n, n < d.T.length /\ row d n = r := by
 obtain ⟨n, hn, rfl⟩ := List.mem_iff_getElem.1 h; exact ⟨n, hn, by unfold row; rw [List.getElem?_eq_getElem hn]; rfl⟩
noncomputable def dec (p : Prop) : Bool := @decide p (Classical.propDecidable p)
theorem al {p : Prop} : dec p = true ↔ p := by unfold dec; simp
theorem eF {α : Type} {l : List α} {n : Nat} (h : l.length <= n) : l.take n = l := List.take_of_length_le h
theorem toList_data (a : ByteArray) : a.toList = a.data.toList := by
 have : a = ByteArray.mk a.data.toList.toArray := by cases a; simp
 rw [this, ByteArray.toList_mk]
theorem SS : (((((((∀ {env : Env} {x : E} {b : Bool} {fs : aa}, aa.ay env ((x, b) :: fs) ↔ (E.den env x).B = b /\ aa.ay env fs) /\
 ((∀ {env : Env}, aa.ay env [] ↔ True) /\
 (∀ {env : Env} {x : Ob} {l : List Ob}, cM env (x :: l) ↔ Ob.den env x /\ cM env l))) /\
 ((∀ {env : Env}, cM env [] ↔ True) /\
 ((∀ {env : Env} {x : E}, Ob.den env (Ob.e x) ↔ (E.den env x).B = true) /\
 (∀ {env : Env} {a b : E}, Ob.den env (Ob.t a b) ↔ (E.den env a).T = (E.den env b).T)))) /\
 (((∀ {env : Env} {a b : E}, Ob.den env (Ob.p a b) ↔ (E.den env a).T.Perm (E.den env b).T) /\
 ((∀ {env : Env} {a b : E}, (E.den env (E.o2 O2.lt a b)).B = decide ((E.den env a).I < (E.den env b).I)) /\
 (∀ {env : Env} {a b : E}, (E.den env (E.o2 O2.le a b)).B = decide ((E.den env a).I <= (E.den env b).I)))) /\
 ((∀ {env : Env} {a b : E}, (E.den env (E.o2 O2.aN a b)).B = decide ((E.den env a).I = (E.den env b).I)) /\
 ((∀ {env : Env} {a b : E}, (E.den env (E.o2 O2.beq a b)).B = ((E.den env a).B == (E.den env b).B)) /\
 (∀ {env : Env} {a b : E}, (E.den env (E.o2 O2.seq a b)).B = ((E.den env a).S.toList == (E.den env b).S.toList)))))) /\
 ((((∀ {env : Env} {a b : E}, (E.den env (E.o2 O2.slt a b)).B = dq (E.den env a).S (E.den env b).S) /\
 ((∀ {env : Env} {a b : E}, (E.den env (E.o2 O2.and a b)).B = ((E.den env a).B && (E.den env b).B)) /\
 (∀ {env : Env} {a b : E}, (E.den env (E.o2 O2.or a b)).B = ((E.den env a).B || (E.den env b).B)))) /\
 ((∀ {env : Env} {a : E}, (E.den env (E.o1 O1.not a)).B = !(E.den env a).B) /\
 ((∀ {env : Env} {b : Bool}, (E.den env (E.bl b)).B = b) /\
 (∀ {env : Env} {z : Int}, (E.den env (E.il z)).I = z)))) /\
 (((∀ {env : Env} {a b : E}, (E.den env (E.o2 O2.sub a b)).I = (E.den env a).I - (E.den env b).I) /\
 ((∀ {env : Env} {a b : E}, (E.den env (E.o2 O2.add a b)).I = (E.den env a).I + (E.den env b).I) /\
 (∀ {env : Env} {a b : E}, (E.den env (E.o2 O2.mul a b)).I = (E.den env a).I * (E.den env b).I))) /\
 ((∀ {env : Env} {a : E}, (E.den env (E.o1 O1.ab a)).I = (((E.den env a).T.length : Nat) : Int)) /\
 ((∀ {env : Env} {a : E}, (E.den env (E.o1 O1.size a)).I = (((E.den env a).S.size : Nat) : Int)) /\
 (∀ {env : Env} {a b : E}, (E.den env (E.o2 O2.mx a b)).I = if (E.den env b).I > (E.den env a).I then (E.den env b).I else (E.den env a).I)))))) /\
 (((((∀ {env : Env} {a b : E}, (E.den env (E.o2 O2.mn a b)).I = if (E.den env b).I < (E.den env a).I then (E.den env b).I else (E.den env a).I) /\
 ((∀ {env : Env} {q : KQ} {a b : E}, (E.den env (E.o2 (O2.mf q) a b)).I = aQ q (E.den env b) (E.den env a).T) /\
 (∀ {env : Env} {j : Nat} {a b : E}, E.den env (E.o2 (O2.cell j) a b) = cc (row (E.den env a) (E.den env b).I.toNat) j))) /\
 ((∀ {env : Env} {q : KQ} {a b : E}, E.den env (E.o2 (O2.mf q) a b) = Dv.i (aQ q (E.den env b) (E.den env a).T)) /\
 ((∀ {env : Env} {c : Nat} {a : E}, E.den env (E.uf c a) = env.uf c (E.den env a)) /\
 (∀ {env : Env} {a b : E}, E.den env (E.o2 O2.b9 a b) = O2.b9.den (E.den env a) (E.den env b))))) /\
 (((∀ {env : Env} {n : Nat}, E.den env (E.v n) = env.v n) /\
 ((∀ {env : Env} {z : Int}, E.den env (E.il z) = Dv.i z) /\
 (∀ {env : Env} {z : Bool}, E.den env (E.bl z) = Dv.b z))) /\
 ((∀ {env : Env} {s : List UInt8}, E.den env (E.sl s) = Dv.s { data := s.toArray }) /\
 ((∀ {env : Env} {a b : E}, E.den env (E.o2 O2.add a b) = Dv.i ((E.den env a).I + (E.den env b).I)) /\
 (∀ {env : Env} {a b : E}, E.den env (E.o2 O2.sub a b) = Dv.i ((E.den env a).I - (E.den env b).I)))))) /\
 ((((∀ {env : Env} {a b : E}, E.den env (E.o2 O2.mul a b) = Dv.i ((E.den env a).I * (E.den env b).I)) /\
 ((∀ {env : Env} {a b : E}, E.den env (E.o2 O2.mn a b) = Dv.i (if (E.den env b).I < (E.den env a).I then (E.den env b).I else (E.den env a).I)) /\
 (∀ {env : Env} {a : E}, E.den env (E.o1 O1.ab a) = Dv.i (((E.den env a).T.length : Nat) : Int)))) /\
 ((∀ {env : Env} {a b : E}, E.den env (E.o2 O2.fy a b) = Dv.t ((E.den env a).T.set ((E.den env b).row.headD (Dv.i 0)).I.toNat (E.den env b).row.tail)) /\
 ((∀ {env : Env} {a b : E}, E.den env (E.o2 O2.fR a b) = Dv.t ((E.den env a).T ++ (E.den env b).T)) /\
 (∀ {env : Env} {a b : E}, E.den env (E.o2 O2.cJ a b) = Dv.t (List.take (E.den env b).I.toNat (E.den env a).T))))) /\
 (((∀ {env : Env} {a b : E}, E.den env (E.o2 O2.n5 a b) = Dv.t (List.drop (E.den env b).I.toNat (E.den env a).T)) /\
 ((∀ {env : Env} {a b : E}, E.den env (E.o2 O2.cat a b) = Dv.s ((E.den env a).S ++ (E.den env b).S)) /\
 (∀ {env : Env} {s : List UInt8}, (E.den env (E.sl s)).S = { data := s.toArray }))) /\
 (((∀ {env : Env} {q : KQ} {a b : E}, (E.den env (E.o2 (O2.md q) a b)).T = nV q (E.den env a).T (E.den env b)) /\
 (∀ {env : Env} {q : KQ} {a b : E}, (E.den env (E.o2 (O2.mp q) a b)).T = jI q (E.den env a).T (E.den env b).row)) /\
 ((∀ {env : Env} {a b : E}, (E.den env (E.o2 O2.fy a b)).T = (E.den env a).T.set ((E.den env b).row.headD (Dv.i 0)).I.toNat (E.den env b).row.tail) /\
 (∀ {env : Env} {a b : E}, (E.den env (E.o2 O2.fR a b)).T = (E.den env a).T ++ (E.den env b).T))))))) /\
 ((((((∀ {env : Env} {a b : E}, (E.den env (E.o2 O2.cJ a b)).T = List.take (E.den env b).I.toNat (E.den env a).T) /\
 ((∀ {env : Env} {a b : E}, (E.den env (E.o2 O2.n5 a b)).T = List.drop (E.den env b).I.toNat (E.den env a).T) /\
 (∀ {a b : Dv}, ar (O2.b9.den a b) 0 = a))) /\
 ((∀ {a b c : Dv}, ar (O2.b9.den a (O2.b9.den b c)) 1 = b) /\
 ((∀ {a b c d : Dv}, ar (O2.b9.den a (O2.b9.den b (O2.b9.den c d))) 2 = c) /\
 (∀ {a b c d e : Dv}, ar (O2.b9.den a (O2.b9.den b (O2.b9.den c (O2.b9.den d e)))) 3 = d)))) /\
 (((∀ {a b c d e f : Dv}, ar (O2.b9.den a (O2.b9.den b (O2.b9.den c (O2.b9.den d (O2.b9.den e f))))) 4 = e) /\
 ((∀ {a b c d e f g : Dv}, ar (O2.b9.den a (O2.b9.den b (O2.b9.den c (O2.b9.den d (O2.b9.den e (O2.b9.den f g)))))) 5 = f) /\
 (∀ {a b c d e f g h : Dv}, ar (O2.b9.den a (O2.b9.den b (O2.b9.den c (O2.b9.den d (O2.b9.den e (O2.b9.den f (O2.b9.den g h))))))) 6 = g))) /\
 ((∀ {a b c d e f g h i : Dv}, ar (O2.b9.den a (O2.b9.den b (O2.b9.den c (O2.b9.den d (O2.b9.den e (O2.b9.den f (O2.b9.den g (O2.b9.den h i)))))))) 7 = h) /\
 ((∀ {a b c d e f g h i j : Dv}, ar (O2.b9.den a (O2.b9.den b (O2.b9.den c (O2.b9.den d (O2.b9.den e (O2.b9.den f (O2.b9.den g (O2.b9.den h (O2.b9.den i j))))))))) 8 = i) /\
 (∀ {l : List (List Dv)}, (Dv.t l).T = l))))) /\
 ((((∀ {z : Int}, (Dv.i z).T = []) /\
 ((∀ {a b : Dv}, (O2.b9.den a b).T = [a :: b.T.head?.getD []]) /\
 (∀ (z : Int), (Dv.i z).I = z))) /\
 ((∀ (z : Bool), (Dv.b z).B = z) /\
 ((∀ (z : ByteArray), (Dv.s z).S = z) /\
 (∀ {a b : Dv}, (O2.b9.den a b).row = a :: b.row)))) /\
 (((∀ {z : Int}, (Dv.i z).row = []) /\
 ((∀ {a b : Dv}, row (O2.b9.den a b) 0 = a :: b.row) /\
 (∀ {r : Nat}, (((r : Int)) + 1).toNat = r + 1))) /\
 (((∀ (n : Nat), ((n : Int)).toNat = n) /\
 (Int.toNat 0 = 0)) /\
 ((∀ {p : Prop} [inst : Decidable p], (decide p = true) = p) /\
 (∀ {p : Prop} {x : Decidable p}, decide p = false ↔ ¬p)))))) /\
 (((((∀ {α : Type} [inst : BEq α] [LawfulBEq α] {a b : α}, (a == b) = true ↔ a = b) /\
 ((∀ {α : Type} [inst : BEq α] [LawfulBEq α] {a b : α}, (a == b) = false ↔ a ≠ b) /\
 (∀ {α : Type}, ([] : List α).head? = none))) /\
 ((∀ {α : Type} {a : α} {l : List α}, (a :: l).head? = some a) /\
 ((∀ {α : Type} {a : α}, (none : Option α).getD a = a) /\
 (∀ {α : Type} {a b : α}, (some a).getD b = a)))) /\
 (((∀ {α : Type} {a : α} {l : List α} {d : α}, (a :: l).headD d = a) /\
 ((∀ {α : Type} {a : α} {l : List α}, (a :: l).tail = l) /\
 (∀ {a : Dv} {l : List Dv}, cc (a :: l) 0 = a))) /\
 ((∀ {a b : Dv} {l : List Dv}, cc (a :: b :: l) 1 = b) /\
 ((∀ {a b c : Dv} {l : List Dv}, cc (a :: b :: c :: l) 2 = c) /\
 (∀ (p : Prop), (False /\ p) = False))))) /\
 ((((∀ (p : Prop), (p /\ False) = False) /\
 (((¬False) = True) /\
 ((¬True) = False))) /\
 ((∀ (p : Prop), (False -> p) = True) /\
 ((∀ (α : Prop), (∀ (a : α), True) = True) /\
 (∀ (p : Prop), (p /\ True) = p)))) /\
 (((∀ (p : Prop), (True /\ p) = p) /\
 (((true = false) = False) /\
 ((false = true) = False))) /\
 (((∀ (b : Bool), ((!b) = true) = (b = false)) /\
 (∀ (b : Bool), ((!b) = false) = (b = true))) /\
 (((!true) = false) /\
 ((!false) = true)))))))) :=
 ⟨⟨⟨⟨⟨⟨@bS, ⟨@BY, @IE⟩⟩, ⟨@sa, ⟨@agB, @afP⟩⟩⟩, ⟨⟨@agk, ⟨@Dn, @rW⟩⟩, ⟨@Lg, ⟨@XY, @VX⟩⟩⟩⟩, ⟨⟨⟨@X9, ⟨@XR, @ZS⟩⟩, ⟨@XN, ⟨@adh, @wV⟩⟩⟩, ⟨⟨@UJ, ⟨@Xa, @TS⟩⟩, ⟨@Qa, ⟨@QV, @ZN⟩⟩⟩⟩⟩, ⟨⟨⟨⟨@adG, ⟨@aa6, @Wn⟩⟩, ⟨@afz, ⟨@afy, @acv⟩⟩⟩, ⟨⟨@GQ, ⟨@agF, @agM⟩⟩, ⟨@agc, ⟨@abi, @aeE⟩⟩⟩⟩, ⟨⟨⟨@adv, ⟨@afZ, @Xv⟩⟩, ⟨@Ux, ⟨@Ya, @Ws⟩⟩⟩, ⟨⟨@V7, ⟨@abh, @adT⟩⟩, ⟨⟨@aah, @ZF⟩, ⟨@Oi, @Ym⟩⟩⟩⟩⟩⟩, ⟨⟨⟨⟨⟨@RF, ⟨@N0, @agD⟩⟩, ⟨@agi, ⟨@agd, @af6⟩⟩⟩, ⟨⟨@agx, ⟨@afW, @agh⟩⟩, ⟨@ag3, ⟨@afQ, @Tx⟩⟩⟩⟩, ⟨⟨⟨@T_i, ⟨@aeH, @I_i⟩⟩, ⟨@B_b, ⟨@S_s, @OT⟩⟩⟩, ⟨⟨@Y3, ⟨@Zx, @qS⟩⟩, ⟨⟨@Int.toNat_natCast, @Int.toNat_zero⟩, ⟨@decide_eq_true_eq, @decide_eq_false_iff_not⟩⟩⟩⟩⟩, ⟨⟨⟨⟨@beq_iff_eq, ⟨@beq_eq_false_iff_ne, @List.head?_nil⟩⟩, ⟨@List.head?_cons, ⟨@Option.getD_none, @Option.getD_some⟩⟩⟩, ⟨⟨@List.headD_cons, ⟨@List.tail_cons, @agW⟩⟩, ⟨@afS, ⟨@agb, @false_and⟩⟩⟩⟩, ⟨⟨⟨@and_false, ⟨@not_false_eq_true, @not_true_eq_false⟩⟩, ⟨@false_implies, ⟨@implies_true, @and_true⟩⟩⟩, ⟨⟨@true_and, ⟨@Bool.true_eq_false, @Bool.false_eq_true⟩⟩, ⟨⟨@Bool.not_eq_true', @Bool.not_eq_false'⟩, ⟨@Bool.not_true, @Bool.not_false⟩⟩⟩⟩⟩⟩⟩
end Go.Sx
namespace Go.Proofs.YtdlppkhmmclipaaGreat.sxObj
open Go.Sx Go.RowKit Go.Proofs.YtdlppkhmmclipaaGreat
set_option linter.unusedVariables false
set_option linter.unusedSimpArgs false
abbrev Row := List Dv
def jo (ns name : ByteArray) : ByteArray := if ns.size = 0 then name else ns ++ ⟨#[47]⟩ ++ name
def kO (r : Row) : ByteArray := jo (cc r 0).S (cc r 1).S
def bad (r : Row) : Bool := (cc r 6).B
def kS (r : Row) : ByteArray := if bad r = true then ⟨#[]⟩ else kO r
def kl (r : Row) : List UInt8 := (kS r).toList
def eight (r : Row) : Row := [cc r 0, cc r 1, cc r 2, cc r 3, cc r 4, cc r 5, cc r 6, cc r 7]
def nine (r : Row) : Row := [cc r 0, cc r 1, cc r 2, cc r 3, cc r 4, cc r 5, cc r 6, cc r 7, .i 0]
def lC (r : Row) : Row := [.t [nine r]]
def nG (r : Row) : Row := eight (row (cc r 0) 0)
def Ra (ns name lab : Dv) : Prop := ns.S.size <= 2147483647 /\ name.S.size <= 2147483647 /\ lab.T.length <= 2147483647
def jg (r : Row) : Prop := Ra (cc r 0) (cc r 1) (cc r 4)
def dF (l : List Row) : Prop := ∀ r ∈ l, jg r
def J5 (l : Dv) (k : ByteArray) (j : Nat) : Bool := !dq (kS (row l j)) k
def iL (l : Dv) (k : ByteArray) : Nat := stop (J5 l k) l.T.length
def gZ (l : Dv) (k : ByteArray) : Bool := decide (iL l k < l.T.length) && ((kS (row l (iL l k))).toList == k.toList)
def ew (l : Dv) (k : ByteArray) (o : Row) : List Row := l.T.take (iL l k) ++ o :: l.T.drop (if gZ l k = true then iL l k + 1 else iL l k)
def cO (l : Dv) (k : ByteArray) : List Row := if gZ l k = true then l.T.take (iL l k) ++ l.T.drop (iL l k + 1) else l.T
def bP (r : Row) : Row := [.s (kS r)]
def pd (l : List Row) : Prop := (l.Pairwise fun a b => kl a < kl b) /\ ∀ r ∈ l, bad r = false
def dn (lo hi : Int) : Nat -> Int
 | 0 => hi
 | n + 1 => if lo < dn lo hi n then (lo + dn lo hi n).tdiv 2 else dn lo hi n
def up (lo hi : Int) : Nat -> Int
 | 0 => lo
 | n + 1 => if up lo hi n < hi then (up lo hi n + hi).tdiv 2 + 1 else up lo hi n
theorem half {a b : Int} (h0 : 0 <= a) (h : a < b) : a <= (a + b).tdiv 2 /\ (a + b).tdiv 2 < b := by
 rw [Int.tdiv_eq_ediv_of_nonneg (by omega)]
 omega
theorem Lc {lo hi : Int} (h0 : 0 <= lo) (h : lo <= hi) : ∀ n : Nat, lo <= dn lo hi n /\ dn lo hi n <= hi /\ (lo < dn lo hi n -> dn lo hi n <= hi - n)
 | 0 => ⟨h, Int.le_refl _, fun _ => by show hi <= hi - ((0 : Nat) : Int); omega⟩
 | n + 1 => by
   obtain ⟨h1, h2, h3⟩ := Lc h0 h n; unfold dn; split
   ·rename_i hl; have := half h0 hl; have := h3 hl; refine ⟨by omega, by omega, fun _ => by omega⟩
   ·exact ⟨h1, h2, fun hh => by omega⟩
theorem M0 {lo hi : Int} (h0 : 0 <= lo) (h : lo <= hi) : ∀ n : Nat, lo <= up lo hi n /\ up lo hi n <= hi /\ (up lo hi n < hi -> lo + n <= up lo hi n)
 | 0 => ⟨Int.le_refl _, h, fun _ => by show lo + ((0 : Nat) : Int) <= lo; omega⟩
 | n + 1 => by
   obtain ⟨h1, h2, h3⟩ := M0 h0 h n; unfold up; split
   ·rename_i hl; have := half (by omega) hl
    have := h3 hl; refine ⟨by omega, by omega, fun _ => by omega⟩
   ·exact ⟨h1, h2, fun hh => by omega⟩
noncomputable def gN (Q : Nat -> Prop) (n : Nat) : Nat := stop (fun j => !dec (Q j)) n
def eg (Q : Nat -> Prop) (n : Nat) : Prop := ∀ j, j < n -> Q j
theorem uJ {Q : Nat -> Prop} {n r : Nat} (hr : r <= gN Q n) (hl : r < n) (h : Q r) : r < gN Q n := rS hr hl (by simp [al.2 h])
theorem hY {Q : Nat -> Prop} {n r : Nat} (hl : r < n) (h : ¬ Q r) : ¬ eg Q n := fun hg => h (hg r hl)
theorem qw {Q : Nat -> Prop} {n r : Nat} (hr : r <= gN Q n) (hl : ¬ r < n) : eg Q n := fun j hj => by
 have hj' : j < stop (fun j => !dec (Q j)) n := by unfold gN at hr; omega
 have h2 := bI hj'; have h3 : dec (Q j) = true := by simpa using h2
 exact al.1 h3
theorem cD {p : Prop} : dec p = false ↔ ¬ p := by
 rw [<- Bool.not_eq_true, al]
theorem tX {p : Prop} : false = dec p ↔ ¬ p := eq_comm.trans cD
theorem ui {p : Prop} : true = dec p ↔ p := eq_comm.trans al
theorem GO {q : Prop} {_ : Decidable q} {p : Prop} : decide q = dec p ↔ (q ↔ p) := by
 by_cases hp : p
 ·rw [al.2 hp]; simp [hp]
 ·rw [cD.2 hp]; simp [hp]
theorem ZG {b : Bool} {p : Prop} : (!b) = dec p ↔ (b = false ↔ p) := by
 by_cases hp : p
 ·rw [al.2 hp]; simp [hp]
 ·rw [cD.2 hp]; simp [hp]
def KE (l a b : Dv) (j : Nat) : Bool := ((cc (row l j) 0).S.toList == a.S.toList) && ((cc (row l j) 1).S.toList == b.S.toList)
def J4 (l a b : Dv) : Nat := stop (KE l a b) l.T.length
def qD (r : Row) : Prop := dF (cc r 2).T /\ (cc r 2).T.length <= 2147483647 /\ (cc r 3).T.length <= 2147483647
def q7 (l : Dv) (j : Nat) : Prop := (cc (row l j) 0).S.size <= 2147483647 /\ (cc (row l j) 1).S.size <= 2147483647
def Hz (l : Dv) : Prop := eg (q7 l) l.T.length /\ l.T.length <= 2147483647
def Jr (a b c d e f : Dv) : Prop := a.S.size <= 2147483647 /\ b.S.size <= 2147483647 /\ c.S.size <= 2147483647 /\ d.S.size <= 2147483647 /\ Hz e /\ f.S.size <= 2147483647
def q5 (l : Dv) (j : Nat) : Prop := Jr (cc (row l j) 0) (cc (row l j) 1) (cc (row l j) 2) (cc (row l j) 3) (cc (row l j) 4) (cc (row l j) 5)
def tG (l : Dv) : Prop := eg (q5 l) l.T.length /\ l.T.length <= 2147483647
def q35 (l : Dv) (j : Nat) : Prop := Jr (cc (row l j) 1) (cc (row l j) 2) (cc (row l j) 3) (cc (row l j) 4) (cc (row l j) 5) (cc (row l j) 6) /\ tG (cc (row l j) 9)
def Xm (l : Dv) : Prop := eg (q35 l) l.T.length /\ l.T.length <= 2147483647
def qd (l k : Dv) (j : Nat) : Prop := ¬ (cc (row l j) 0).S.toList = k.S.toList
def qp (l : Dv) (j : Nat) : Prop := (cc (row l j) 0).S.size <= 40 /\ (cc (row l j) 1).S.size <= 40 /\ eg (qd (.t (l.T.take j)) (cc (row l j) 0)) (l.T.take j).length
def u9 (l : Dv) : Prop := eg (qp l) l.T.length /\ l.T.length <= 6
def qs (s : Dv) (j : Nat) : Prop := ¬ (((s.S.data[j]?.getD 0).toNat : Nat) : Int) = 47
def VV (s : Dv) : Prop := eg (qs s) s.S.size
def small (a b c d e f h : Dv) : Prop := VV a /\ VV b /\ a.S.size <= 20 /\ b.S.size <= 20 /\ c.S.size <= 20 /\ d.S.size <= 20 /\ f.S.size <= 40 /\ e.T.length <= 4 /\ u9 e /\ h.B = false /\ ¬ b.S.toList = []
def YX (l : Dv) (j : Nat) : Prop := small (cc (row l j) 0) (cc (row l j) 1) (cc (row l j) 2) (cc (row l j) 3) (cc (row l j) 4) (cc (row l j) 5) (cc (row l j) 7)
def vC (l : Dv) : Prop := eg (YX l) l.T.length /\ l.T.length <= 20
def qex (l : Dv) (j : Nat) : Prop := 1 <= (cc (row l j) 0).I /\ (cc (row l j) 0).I <= 7 /\ small (cc (row l j) 1) (cc (row l j) 2) (cc (row l j) 3) (cc (row l j) 4) (cc (row l j) 5) (cc (row l j) 6) (cc (row l j) 8) /\ vC (cc (row l j) 9) /\ 0 <= (cc (row l j) 10).I /\ (cc (row l j) 10).I <= 1099511627776
def UZ (l : Dv) : Prop := eg (qex l) l.T.length /\ l.T.length <= 80
def qfi (l : Dv) (j : Nat) : Prop := (cc (row l j) 9).T.length <= 20 /\ 0 <= (cc (row l j) 10).I /\ (cc (row l j) 10).I <= 1099511627776
def VF (l : Dv) : Prop := eg (qfi l) l.T.length /\ l.T.length <= 400
def atV (m : Dv) (k : ByteArray) : Int := if 0 <= aQ .s (.s k) m.T then (cc (row m (aQ .s (.s k) m.T).toNat) 1).I else 0
def Tp (m : Dv) (now ttl : Int) (k : ByteArray) : Prop := 0 < ttl /\ ttl < now - atV m k
def ac6 (only : Dv) (all : Bool) (k : ByteArray) : Prop := all = true \/ k.toList = only.S.toList
def Pn (l m : Dv) (now ttl : Int) (only : Dv) (all : Bool) (j : Nat) : Prop := ac6 only all (kS (row l j)) /\ ¬ Tp m now ttl (kS (row l j))
noncomputable def Z3 (l m : Dv) (now ttl : Int) (only : Dv) (all : Bool) (n : Nat) : List Nat := (List.range n).filter fun j => dec (Pn l m now ttl only all j)
noncomputable def Bk (l m : Dv) (now ttl : Int) (only : Dv) (all : Bool) : List Row := (Z3 l m now ttl only all l.T.length).map (row l)
noncomputable def Ih (l m : Dv) (now ttl : Int) (only : Dv) (all : Bool) : Nat -> List Row
 | 0 => l.T
 | n + 1 => if dec (ac6 only all (kS (row l n)) /\ Tp m now ttl (kS (row l n))) = true then cO (.t (Ih l m now ttl only all n)) (kS (row l n)) else Ih l m now ttl only all n
def GB (m : Dv) : Prop := ∀ r ∈ m.T, 0 <= (cc r 1).I /\ (cc r 1).I <= 1125899906842624
def zU (l : Dv) : Nat -> List Row
 | 0 => []
 | n + 1 => ew (.t (zU l n)) (jo (cc (row l n) 0).S (cc (row l n) 1).S) (eight (row l n))
def qb (l : Dv) (j : Nat) : Prop := (cc (row l j) 6).B = false
def atT (ks m now : Dv) : Nat -> List Row
 | 0 => m.T
 | n + 1 => jI .s (atT ks m now n) [cc (row ks n) 0, now]
structure Sp where
 now : Int
 S : List Row
 M : List Row
def dG (p : Row) : Row := [cc p 1, cc p 2, cc p 3, cc p 4, cc p 5, cc p 6, cc p 7, cc p 8]
def bd (p : Row) : ByteArray := jo (cc p 1).S (cc p 2).S
def aY (err : Int) (ok : Bool) (bj keys : List Row) : Row := [.i err, .b ok, .t bj, .t keys, .s ⟨[].toArray⟩, .t []]
noncomputable def Mf (ttl : Int) (p : Row) (s : Sp) : Sp × Row :=
 if ((cc p 0).I = 1 \/ (cc p 0).I = 2 \/ (cc p 0).I = 4) /\ (cc p 7).B = true then (s, aY 1 false [] [])
 else if (cc p 0).I = 1 then (⟨s.now, ew (.t s.S) (bd p) (dG p), jI .s s.M [.s (bd p), .i s.now]⟩, aY 0 false [] [])
 else if (cc p 0).I = 2 then (⟨s.now, cO (.t s.S) (bd p), s.M⟩, aY 0 false [] [])
 else if (cc p 0).I = 3 then
  (if dec (eg (qb (cc p 9)) (cc p 9).T.length) = true then (⟨s.now, zU (cc p 9) (cc p 9).T.length, atT (.t ((zU (cc p 9) (cc p 9).T.length).map bP)) (.t s.M) (.i s.now) (zU (cc p 9) (cc p 9).T.length).length⟩, aY 0 false [] [])
  else (s, aY 1 false [] []))
 else if (cc p 0).I = 4 then (⟨s.now, Ih (.t s.S) (.t s.M) s.now ttl (.s (bd p)) false s.S.length, s.M⟩, aY 0 (decide (0 < (Bk (.t s.S) (.t s.M) s.now ttl (.s (bd p)) false).length)) (Bk (.t s.S) (.t s.M) s.now ttl (.s (bd p)) false) [])
 else if (cc p 0).I = 5 then (⟨s.now, Ih (.t s.S) (.t s.M) s.now ttl (.s ⟨[].toArray⟩) true s.S.length, s.M⟩, aY 0 false (Bk (.t s.S) (.t s.M) s.now ttl (.s ⟨[].toArray⟩) true) [])
 else if (cc p 0).I = 6 then (s, aY 0 false [] (s.S.map bP))
 else if (cc p 0).I = 7 then (⟨s.now + (cc p 10).I, s.S, s.M⟩, aY 0 false [] [])
 else (s, aY 0 false [] [])
noncomputable def Fa (ops : Dv) (ttl : Int) : Nat -> Sp
 | 0 => ⟨0, [], []⟩
 | n + 1 => (Mf ttl (row ops n) (Fa ops ttl n)).1
noncomputable def UL (ops : Dv) (ttl : Int) : List Row := (List.range ops.T.length).map fun n => (Mf ttl (row ops n) (Fa ops ttl n)).2
noncomputable def Nu (c : Nat) (d : Dv) : Dv :=
 match c with
 | 100 => .s (jo (ar d 0).S (ar d 1).S)
 | 101 => .t ((ar d 0).T.map lC)
 | 102 => .t ((ar d 0).T.map nG)
 | 103 => .t ((ar d 0).T.map bP)
 | 104 => .i (iL (ar d 0) (ar d 1).S : Nat)
 | 105 => .b (gZ (ar d 0) (ar d 1).S)
 | 106 => .t (eL (ar d 0).T)
 | 107 => .t (ew (ar d 0) (jo (ar d 1).S (ar d 2).S) [ar d 1, ar d 2, ar d 3, ar d 4, ar d 5, ar d 6, ar d 7, ar d 8])
 | 108 => .t (cO (ar d 0) (ar d 1).S)
 | 110 => .b (dec (Ra (ar d 0) (ar d 1) (ar d 2)))
 | 111 => .b (dec (dF (ar d 0).T))
 | 112 => .b (dec (pd (ar d 0).T))
 | 113 => .b (dec (pd ((ar d 0).T.map nG) /\ dF ((ar d 0).T.map nG)))
 | 121 => .i (dn (ar d 0).I (ar d 1).I (ar d 2).I.toNat)
 | 122 => .i (up (ar d 0).I (ar d 1).I (ar d 2).I.toNat)
 | 123 => .i (20 * 2 ^ (ar d 0).I.toNat)
 | 130 => .i (J4 (ar d 0) (ar d 1) (ar d 2) : Nat)
 | 131 => .b (decide (J4 (ar d 0) (ar d 1) (ar d 2) < (ar d 0).T.length))
 | 132 => .b (dec (∀ r ∈ (ar d 0).T, qD r))
 | 133 => .b (dec (¬ eg (q7 (ar d 0)) (ar d 0).T.length))
 | 134 => .i (gN (q7 (ar d 0)) (ar d 0).T.length : Nat)
 | 135 => .b (dec (Hz (ar d 0)))
 | 136 => .b (dec (Jr (ar d 0) (ar d 1) (ar d 2) (ar d 3) (ar d 4) (ar d 5)))
 | 137 => .b (dec (¬ eg (q5 (ar d 0)) (ar d 0).T.length))
 | 138 => .i (gN (q5 (ar d 0)) (ar d 0).T.length : Nat)
 | 139 => .b (dec (tG (ar d 0)))
 | 140 => .b (dec (¬ eg (q35 (ar d 0)) (ar d 0).T.length))
 | 141 => .i (gN (q35 (ar d 0)) (ar d 0).T.length : Nat)
 | 142 => .b (dec (Xm (ar d 0)))
 | 143 => .b (dec (¬ eg (qd (ar d 0) (ar d 1)) (ar d 0).T.length))
 | 144 => .i (gN (qd (ar d 0) (ar d 1)) (ar d 0).T.length : Nat)
 | 145 => .b (dec (¬ eg (qp (ar d 0)) (ar d 0).T.length))
 | 146 => .i (gN (qp (ar d 0)) (ar d 0).T.length : Nat)
 | 147 => .b (dec (u9 (ar d 0)))
 | 148 => .b (dec (¬ eg (qs (ar d 0)) (ar d 0).S.size))
 | 149 => .i (gN (qs (ar d 0)) (ar d 0).S.size : Nat)
 | 150 => .b (dec (small (ar d 0) (ar d 1) (ar d 2) (ar d 3) (ar d 4) (ar d 5) (ar d 7)))
 | 151 => .b (dec (¬ eg (YX (ar d 0)) (ar d 0).T.length))
 | 152 => .i (gN (YX (ar d 0)) (ar d 0).T.length : Nat)
 | 153 => .b (dec (vC (ar d 0)))
 | 154 => .b (dec (¬ eg (qex (ar d 0)) (ar d 0).T.length))
 | 155 => .i (gN (qex (ar d 0)) (ar d 0).T.length : Nat)
 | 156 => .b (dec (UZ (ar d 0)))
 | 160 => .t (Bk (ar d 0) (ar d 1) (ar d 2).I (ar d 3).I (ar d 4) (ar d 5).B)
 | 161 => .i ((Z3 (ar d 0) (ar d 1) (ar d 2).I (ar d 3).I (ar d 4) (ar d 5).B (ar d 6).I.toNat).length : Nat)
 | 162 => .t (Ih (ar d 0) (ar d 1) (ar d 2).I (ar d 3).I (ar d 4) (ar d 5).B (ar d 6).I.toNat)
 | 163 => .t (Ih (ar d 0) (ar d 1) (ar d 2).I (ar d 3).I (ar d 4) (ar d 5).B (ar d 0).T.length)
 | 164 => .b (dec (GB (ar d 0)))
 | 165 => .t (zU (ar d 0) (ar d 1).I.toNat)
 | 166 => .b (dec (¬ eg (qb (ar d 0)) (ar d 0).T.length))
 | 167 => .i (gN (qb (ar d 0)) (ar d 0).T.length : Nat)
 | 168 => .t (zU (ar d 0) (ar d 0).T.length)
 | 169 => .t (atT (ar d 0) (ar d 1) (ar d 2) (ar d 3).I.toNat)
 | 170 => .i (Fa (ar d 0) (ar d 1).I (ar d 2).I.toNat).now
 | 171 => .t (Fa (ar d 0) (ar d 1).I (ar d 2).I.toNat).S
 | 172 => .t (Fa (ar d 0) (ar d 1).I (ar d 2).I.toNat).M
 | 173 => .t (UL (ar d 0) (ar d 1).I)
 | 174 => .b (dec (VF (ar d 0)))
 | _ => .i 0
def OU (o : Env) : Prop := ∀ c d, 100 <= c -> c < 200 -> o.uf c d = Nu c d
theorem OU.of {o : Env} (h : ∀ c d, 100 <= c -> c < 200 -> o.uf c d = Nu c d) : OU o := h
theorem OU.aA {o o' : Env} (h : OU o) (e : o'.uf = o.uf) : OU o' := fun c d h1 h2 => by rw [e]; exact h c d h1 h2
section
variable {o : Env} (h : OU o) (d : Dv)
include h
theorem OU.P6 : o.uf 166 d = .b (dec (¬ eg (qb (ar d 0)) (ar d 0).T.length)) := h 166 d (by decide) (by decide)
theorem OU.Jw : o.uf 167 d = .i (gN (qb (ar d 0)) (ar d 0).T.length : Nat) := h 167 d (by decide) (by decide)
theorem OU.QF : o.uf 130 d = .i (J4 (ar d 0) (ar d 1) (ar d 2) : Nat) := h 130 d (by decide) (by decide)
theorem OU.aaU : o.uf 131 d = .b (decide (J4 (ar d 0) (ar d 1) (ar d 2) < (ar d 0).T.length)) := h 131 d (by decide) (by decide)
theorem OU.aeN : o.uf 132 d = .b (dec (∀ r ∈ (ar d 0).T, qD r)) := h 132 d (by decide) (by decide)
theorem OU.ZY : o.uf 133 d = .b (dec (¬ eg (q7 (ar d 0)) (ar d 0).T.length)) := h 133 d (by decide) (by decide)
theorem OU.Yd : o.uf 134 d = .i (gN (q7 (ar d 0)) (ar d 0).T.length : Nat) := h 134 d (by decide) (by decide)
theorem OU.Zb : o.uf 135 d = .b (dec (Hz (ar d 0))) := h 135 d (by decide) (by decide)
theorem OU.Je : o.uf 136 d = .b (dec (Jr (ar d 0) (ar d 1) (ar d 2) (ar d 3) (ar d 4) (ar d 5))) := h 136 d (by decide) (by decide)
theorem OU.aeL : o.uf 137 d = .b (dec (¬ eg (q5 (ar d 0)) (ar d 0).T.length)) := h 137 d (by decide) (by decide)
theorem OU.Xy : o.uf 138 d = .i (gN (q5 (ar d 0)) (ar d 0).T.length : Nat) := h 138 d (by decide) (by decide)
theorem OU.N2 : o.uf 139 d = .b (dec (tG (ar d 0))) := h 139 d (by decide) (by decide)
theorem OU.adY : o.uf 143 d = .b (dec (¬ eg (qd (ar d 0) (ar d 1)) (ar d 0).T.length)) := h 143 d (by decide) (by decide)
theorem OU.Vw : o.uf 144 d = .i (gN (qd (ar d 0) (ar d 1)) (ar d 0).T.length : Nat) := h 144 d (by decide) (by decide)
theorem OU.aaW : o.uf 145 d = .b (dec (¬ eg (qp (ar d 0)) (ar d 0).T.length)) := h 145 d (by decide) (by decide)
theorem OU.Ui : o.uf 146 d = .i (gN (qp (ar d 0)) (ar d 0).T.length : Nat) := h 146 d (by decide) (by decide)
theorem OU.abW : o.uf 147 d = .b (dec (u9 (ar d 0))) := h 147 d (by decide) (by decide)
theorem OU.ZI : o.uf 148 d = .b (dec (¬ eg (qs (ar d 0)) (ar d 0).S.size)) := h 148 d (by decide) (by decide)
theorem OU.Yk : o.uf 149 d = .i (gN (qs (ar d 0)) (ar d 0).S.size : Nat) := h 149 d (by decide) (by decide)
theorem OU.WI : o.uf 150 d = .b (dec (small (ar d 0) (ar d 1) (ar d 2) (ar d 3) (ar d 4) (ar d 5) (ar d 7))) := h 150 d (by decide) (by decide)
theorem OU.abF : o.uf 151 d = .b (dec (¬ eg (YX (ar d 0)) (ar d 0).T.length)) := h 151 d (by decide) (by decide)
theorem OU.Va : o.uf 152 d = .i (gN (YX (ar d 0)) (ar d 0).T.length : Nat) := h 152 d (by decide) (by decide)
theorem OU.abK : o.uf 153 d = .b (dec (vC (ar d 0))) := h 153 d (by decide) (by decide)
theorem OU.mr : o.uf 100 d = .s (jo (ar d 0).S (ar d 1).S) := h 100 d (by decide) (by decide)
theorem OU.Lb : o.uf 101 d = .t ((ar d 0).T.map lC) := h 101 d (by decide) (by decide)
theorem OU.I9 : o.uf 102 d = .t ((ar d 0).T.map nG) := h 102 d (by decide) (by decide)
theorem OU.Ki : o.uf 103 d = .t ((ar d 0).T.map bP) := h 103 d (by decide) (by decide)
theorem OU.AB : o.uf 104 d = .i (iL (ar d 0) (ar d 1).S : Nat) := h 104 d (by decide) (by decide)
theorem OU.Ga : o.uf 105 d = .b (gZ (ar d 0) (ar d 1).S) := h 105 d (by decide) (by decide)
theorem OU.ME : o.uf 106 d = .t (eL (ar d 0).T) := h 106 d (by decide) (by decide)
theorem OU.KJ : o.uf 107 d = .t (ew (ar d 0) (jo (ar d 1).S (ar d 2).S) [ar d 1, ar d 2, ar d 3, ar d 4, ar d 5, ar d 6, ar d 7, ar d 8]) := h 107 d (by decide) (by decide)
theorem OU.Qv : o.uf 108 d = .t (cO (ar d 0) (ar d 1).S) := h 108 d (by decide) (by decide)
theorem OU.jq : o.uf 110 d = .b (dec (Ra (ar d 0) (ar d 1) (ar d 2))) := h 110 d (by decide) (by decide)
theorem OU.mV : o.uf 111 d = .b (dec (dF (ar d 0).T)) := h 111 d (by decide) (by decide)
theorem OU.aa5 : o.uf 112 d = .b (dec (pd (ar d 0).T)) := h 112 d (by decide) (by decide)
theorem OU.IG : o.uf 113 d = .b (dec (pd ((ar d 0).T.map nG) /\ dF ((ar d 0).T.map nG))) := h 113 d (by decide) (by decide)
theorem OU.abL : o.uf 121 d = .i (dn (ar d 0).I (ar d 1).I (ar d 2).I.toNat) := h 121 d (by decide) (by decide)
theorem OU.XW : o.uf 122 d = .i (up (ar d 0).I (ar d 1).I (ar d 2).I.toNat) := h 122 d (by decide) (by decide)
theorem OU.ab3 : o.uf 123 d = .i (20 * 2 ^ (ar d 0).I.toNat) := h 123 d (by decide) (by decide)
end
theorem uj (a b : ByteArray) : dq a b = decide (a.toList < b.toList) := bytesLess_eq _ _
theorem zZ (l : Dv) (k : ByteArray) : iL l k <= l.T.length := j8
end Go.Proofs.YtdlppkhmmclipaaGreat.sxObj
namespace Go.Proofs.YtdlppkhmmclipaaGreat.sxObj
open Go.Sx
set_option linter.unusedVariables false
abbrev NT : E := .v 7104
abbrev YO : E := .o2 .lt (.v 2100) (.o1 .ab NT)
abbrev fm : E := .il 0
def Aa : List (aa × List Ob) :=
 [(fT YO [], oO (.o2 .seq (eC 0 NT (.v 2100)) (eC 0 NT fm)) (oO (.o2 .seq (eC 1 NT (.v 2100)) (eC 1 NT fm)) [])),
  (fF YO [], oT fm NT [])]
def AJ : List (aa × List Ob) :=
 [(fT YO [], []),
  (fF YO [], oT (.o2 .cJ NT (.v 2100)) NT [])]
def AM : List (aa × List Ob) :=
 [([], oO (.o2 .le (.o1 .ab (.v 7114)) (.il 2147483647)) [])]
abbrev B3 : E := .v 2101
abbrev Ef : E := .v 7120
abbrev ob5 : E := .o2 .lt B3 (.o1 .ab Ef)
abbrev ob6 : E := eP (eC 0 Ef B3) (eP (eC 1 Ef B3) (eP (eC 2 Ef B3) (eP (eC 3 Ef B3) (eP (eC 4 Ef B3) (eP (eC 5 Ef B3) (eP (eC 6 Ef B3) (eP (eC 7 Ef B3) (eP fm fm))))))))
abbrev YR : E := .uf 101 (eP Ef fm)
def xm : List (aa × List Ob) :=
 [(fT ob5 [], oO (.uf 110 (eP (eC 0 Ef B3) (eP (eC 1 Ef B3) (eP (eC 4 Ef B3) fm)))) (oT ob6 (eC 0 YR fm) [])),
  (fF ob5 [], oT fm YR [])]
def yd : List (aa × List Ob) :=
 [(fT ob5 [], oO (.uf 110 (eP (eC 0 Ef B3) (eP (eC 1 Ef B3) (eP (eC 4 Ef B3) fm)))) (oT ob6 (eC 0 YR B3) [])),
  (fF ob5 [], oO (.o2 .le B3 (.o1 .ab YR)) (oT (.o2 .cJ YR B3) YR []))]
def Ca : List (aa × List Ob) :=
 [([], [])]
abbrev TQ : E := eC 4 (.v 7130) (.v 7131)
abbrev ob9 : E := .o2 .lt (.v 2102) (.o1 .ab TQ)
def yc : List (aa × List Ob) :=
 [(fT ob9 [], oO (.o2 .seq (eC 0 TQ (.v 2102)) (eC 0 TQ fm)) (oO (.o2 .seq (eC 1 TQ (.v 2102)) (eC 1 TQ fm)) [])),
  (fF ob9 [], oT fm TQ [])]
def xa : List (aa × List Ob) :=
 [(fT ob9 [], []),
  (fF ob9 [], oT (.o2 .cJ TQ (.v 2102)) TQ [])]
def xH : List (aa × List Ob) :=
 [([], oO (.o2 .le (.o1 .ab (eC 4 (.v 7135) (.v 7136))) (.il 2147483647)) [])]
abbrev Uv : E := eC 6 (.v 7140) (.v 7141)
abbrev KC : E := eC 0 (.v 7140) (.v 7141)
abbrev abj : E := .o2 .lt fm (.o1 .size KC)
abbrev Qy : E := eC 1 (.v 7140) (.v 7141)
abbrev uS : E := .il 9223372036854775807
abbrev aee : E := .uf 100 (eP KC (eP Qy fm))
def EY : List (aa × List Ob) :=
 [(fT Uv [], []),
  (fT abj (fF Uv []), oO (.o2 .le (.o2 .add (.o1 .size (.o2 .cat KC (.sl [47]))) (.o1 .size Qy)) uS) (oO (.o2 .le (.o2 .add (.o1 .size KC) (.il 1)) uS) (oO (.o2 .seq (.o2 .cat (.o2 .cat KC (.sl [47])) Qy) aee) []))),
  (fF abj (fF Uv []), oO (.o2 .seq Qy aee) [])]
def BM : List (aa × List Ob) :=
 [(fT (.v 7156) [], []),
  (fF (.v 7156) [], [])]
abbrev abp : E := .uf 100 (eP (.v 7160) (eP (.v 7161) fm))
abbrev Z8 : E := .o2 .cat (.v 7160) (.sl [47])
def wQ : List (aa × List Ob) :=
 [(fT (.v 7166) [], []),
  (fT (.o2 .seq (.v 7160) (.sl [])) (fF (.v 7166) []), oO (.o2 .seq (.v 7161) abp) []),
  (fF (.o2 .seq (.v 7160) (.sl [])) (fF (.v 7166) []), oO (.o2 .le (.o2 .add (.o1 .size Z8) (.o1 .size (.v 7161))) uS) (oO (.o2 .le (.o2 .add (.o1 .size (.v 7160)) (.il 1)) uS) (oO (.o2 .seq (.o2 .cat Z8 (.v 7161)) abp) [])))]
abbrev pY : E := .v 7170
abbrev ph : E := .v 2103
abbrev T0 : E := .o2 .lt ph (.o1 .ab pY)
abbrev acj : aa := fT (eC 6 pY ph) (fT T0 [])
abbrev JM : E := eP pY (eP (.v 7171) fm)
abbrev abZ : List Ob := oO (.o2 .lt ph (.uf 104 JM)) (oO (.uf 110 (eP (eC 0 pY ph) (eP (eC 1 pY ph) (eP (eC 4 pY ph) fm)))) [])
abbrev TT : E := .o2 .lt (.uf 104 JM) (.o1 .ab pY)
abbrev VN : E := .uf 100 (eP (eC 0 pY ph) (eP (eC 1 pY ph) fm))
abbrev aer : aa := fF (eC 6 pY ph) (fT T0 [])
def AK : List (aa × List Ob) :=
 [(fT (.o2 .slt (.sl []) (.v 7171)) acj, abZ),
  (fF (.o2 .slt (.sl []) (.v 7171)) acj, oO TT (oO (.uf 110 (eP (eC 0 pY ph) (eP (eC 1 pY ph) (eP (eC 4 pY ph) fm)))) (oO (.o2 .aN ph (.uf 104 JM)) (oO (.o2 .beq (.o2 .seq (.sl []) (.v 7171)) (.uf 105 JM)) [])))),
  (fT (.o2 .slt VN (.v 7171)) aer, abZ),
  (fF (.o2 .slt VN (.v 7171)) aer, oO TT (oO (.uf 110 (eP (eC 0 pY ph) (eP (eC 1 pY ph) (eP (eC 4 pY ph) fm)))) (oO (.o2 .aN ph (.uf 104 JM)) (oO (.o2 .beq (.o2 .seq VN (.v 7171)) (.uf 105 JM)) [])))),
  (fF T0 [], oO (.o1 .not TT) [])]
abbrev UI : E := eP (.v 7173) (eP (.v 7174) fm)
abbrev abq : E := .o2 .lt (.uf 104 UI) (.o1 .ab (.v 7173))
def xj : List (aa × List Ob) :=
 [(fT abq [], []),
  (fF abq [], oO (.o2 .aN (.o1 .ab (.v 7173)) (.uf 104 UI)) (oO (.o2 .beq (.bl false) (.uf 105 UI)) []))]
abbrev j5 : E := .v 7180
abbrev Mq : E := eP j5 (eP (.uf 100 (eP (.v 7181) (eP (.v 7182) fm))) fm)
abbrev gq : E := .uf 104 Mq
abbrev oF : E := .o2 .add gq (.il 1)
abbrev Mz : E := .o2 .n5 j5 oF
abbrev Qk : E := .o2 .aN (.o1 .ab Mz) fm
abbrev se : E := .o1 .ab (.o2 .cJ j5 gq)
abbrev aaI : aa := fT (.o2 .aN se fm) (fT (.uf 105 Mq) [])
abbrev LR : E := eP (.v 7181) (eP (.v 7182) (eP (.v 7183) (eP (.v 7184) (eP (.v 7185) (eP (.v 7186) (eP (.v 7187) (eP (.v 7188) fm)))))))
abbrev Jl : E := .uf 107 (eP j5 LR)
abbrev aeu : List Ob := oO (.o2 .le gq (.o1 .ab j5)) (oO (.o2 .le fm gq) (oT LR Jl []))
abbrev qc : E := .il 2147483648
abbrev aaP : aa := fF (.o2 .aN se fm) (fT (.uf 105 Mq) [])
abbrev XO : E := .o2 .fR (.o2 .cJ j5 gq) LR
abbrev abE : List Ob := oO (.o2 .le gq (.o1 .ab j5)) (oO (.o2 .le fm gq) (oT XO Jl []))
abbrev Lu : E := .o2 .n5 j5 gq
abbrev OB : E := .o2 .aN (.o1 .ab Lu) fm
abbrev acU : aa := fT (.o2 .aN se fm) (fF (.uf 105 Mq) [])
abbrev abR : aa := fF (.o2 .aN se fm) (fF (.uf 105 Mq) [])
def qU : List (aa × List Ob) :=
 [(fT Qk aaI, oO (.o2 .le gq (.o1 .ab j5)) (oO (.o2 .le fm gq) (oO (.o2 .le oF (.o1 .ab j5)) (oO (.o2 .le fm oF) (oO (.o2 .le oF uS) (oO (.o2 .le (.il (-9223372036854775808)) oF) aeu)))))),
  (fF Qk aaI, oO (.o2 .le (.o2 .add (.il 1) (.o1 .ab Mz)) qc) (oO (.o2 .le gq (.o1 .ab j5)) (oO (.o2 .le fm gq) (oO (.o2 .le oF (.o1 .ab j5)) (oO (.o2 .le fm oF) (oO (.o2 .le oF uS) (oO (.o2 .le (.il (-9223372036854775808)) oF) (oO (.o2 .le gq (.o1 .ab j5)) (oO (.o2 .le fm gq) (oT (.o2 .fR LR Mz) Jl [])))))))))),
  (fT Qk aaP, oO (.o2 .le se qc) (oO (.o2 .le se qc) (oO (.o2 .le gq (.o1 .ab j5)) (oO (.o2 .le fm gq) (oO (.o2 .le oF (.o1 .ab j5)) (oO (.o2 .le fm oF) (oO (.o2 .le oF uS) (oO (.o2 .le (.il (-9223372036854775808)) oF) abE)))))))),
  (fF Qk aaP, oO (.o2 .le (.o2 .add (.o2 .add se (.il 1)) (.o1 .ab Mz)) qc) (oO (.o2 .le se qc) (oO (.o2 .le se qc) (oO (.o2 .le gq (.o1 .ab j5)) (oO (.o2 .le fm gq) (oO (.o2 .le oF (.o1 .ab j5)) (oO (.o2 .le fm oF) (oO (.o2 .le oF uS) (oO (.o2 .le (.il (-9223372036854775808)) oF) (oO (.o2 .le gq (.o1 .ab j5)) (oO (.o2 .le fm gq) (oT (.o2 .fR XO Mz) Jl [])))))))))))),
  (fT OB acU, oO (.o2 .le gq (.o1 .ab j5)) (oO (.o2 .le fm gq) aeu)),
  (fF OB acU, oO (.o2 .le (.o2 .add (.il 1) (.o1 .ab Lu)) qc) (oO (.o2 .le gq (.o1 .ab j5)) (oO (.o2 .le fm gq) (oO (.o2 .le gq (.o1 .ab j5)) (oO (.o2 .le fm gq) (oT (.o2 .fR LR Lu) Jl [])))))),
  (fT OB abR, oO (.o2 .le se qc) (oO (.o2 .le se qc) (oO (.o2 .le gq (.o1 .ab j5)) (oO (.o2 .le fm gq) abE)))),
  (fF OB abR, oO (.o2 .le (.o2 .add (.o2 .add se (.il 1)) (.o1 .ab Lu)) qc) (oO (.o2 .le se qc) (oO (.o2 .le se qc) (oO (.o2 .le gq (.o1 .ab j5)) (oO (.o2 .le fm gq) (oO (.o2 .le gq (.o1 .ab j5)) (oO (.o2 .le fm gq) (oT (.o2 .fR XO Lu) Jl []))))))))]
abbrev Kg : E := eP (.v 7190) (eP (.v 7191) fm)
abbrev yM : E := .uf 104 Kg
abbrev n7 : E := .o2 .add yM (.il 1)
abbrev LX : E := .o2 .n5 (.v 7190) n7
abbrev Qr : E := .o2 .aN (.o1 .ab LX) fm
abbrev I6 : E := .o2 .cJ (.v 7190) yM
abbrev aav : E := .o2 .aN (.o1 .ab I6) fm
abbrev Zz : aa := fT aav (fT (.uf 105 Kg) [])
abbrev No : E := .uf 108 Kg
abbrev aep : aa := fF aav (fT (.uf 105 Kg) [])
def mc : List (aa × List Ob) :=
 [(fT Qr Zz, oO (.o2 .le n7 (.o1 .ab (.v 7190))) (oO (.o2 .le fm n7) (oO (.o2 .le n7 uS) (oO (.o2 .le (.il (-9223372036854775808)) n7) (oO (.o2 .le yM (.o1 .ab (.v 7190))) (oO (.o2 .le fm yM) (oT fm No []))))))),
  (fF Qr Zz, oO (.o2 .le (.o1 .ab LX) qc) (oO (.o2 .le n7 (.o1 .ab (.v 7190))) (oO (.o2 .le fm n7) (oO (.o2 .le n7 uS) (oO (.o2 .le (.il (-9223372036854775808)) n7) (oO (.o2 .le yM (.o1 .ab (.v 7190))) (oO (.o2 .le fm yM) (oT LX No [])))))))),
  (fT Qr aep, oO (.o2 .le n7 (.o1 .ab (.v 7190))) (oO (.o2 .le fm n7) (oO (.o2 .le n7 uS) (oO (.o2 .le (.il (-9223372036854775808)) n7) (oO (.o2 .le (.o1 .ab I6) qc) (oO (.o2 .le yM (.o1 .ab (.v 7190))) (oO (.o2 .le fm yM) (oT I6 No [])))))))),
  (fF Qr aep, oO (.o2 .le (.o2 .add (.o1 .ab I6) (.o1 .ab LX)) qc) (oO (.o2 .le n7 (.o1 .ab (.v 7190))) (oO (.o2 .le fm n7) (oO (.o2 .le n7 uS) (oO (.o2 .le (.il (-9223372036854775808)) n7) (oO (.o2 .le (.o1 .ab I6) qc) (oO (.o2 .le yM (.o1 .ab (.v 7190))) (oO (.o2 .le fm yM) (oT (.o2 .fR I6 LX) No []))))))))),
  (fF (.uf 105 Kg) [], oT (.v 7190) No [])]
abbrev nR : E := .v 7195
abbrev lX : E := .v 2104
abbrev Pp : E := .o2 .lt lX (.o1 .ab nR)
abbrev aeM : aa := fT (eC 6 nR lX) (fT Pp [])
abbrev C4 : E := .uf 103 (eP nR fm)
abbrev abb : aa := fF (eC 6 nR lX) (fT Pp [])
abbrev acO : E := .uf 100 (eP (eC 0 nR lX) (eP (eC 1 nR lX) fm))
def td : List (aa × List Ob) :=
 [(aeM, oO (.uf 110 (eP (eC 0 nR lX) (eP (eC 1 nR lX) (eP (eC 4 nR lX) fm)))) (oO (.o2 .seq (.sl []) (eC 0 C4 fm)) [])),
  (abb, oO (.uf 110 (eP (eC 0 nR lX) (eP (eC 1 nR lX) (eP (eC 4 nR lX) fm)))) (oO (.o2 .seq acO (eC 0 C4 fm)) [])),
  (fF Pp [], oT fm C4 [])]
def tL : List (aa × List Ob) :=
 [(aeM, oO (.uf 110 (eP (eC 0 nR lX) (eP (eC 1 nR lX) (eP (eC 4 nR lX) fm)))) (oO (.o2 .seq (.sl []) (eC 0 C4 lX)) [])),
  (abb, oO (.uf 110 (eP (eC 0 nR lX) (eP (eC 1 nR lX) (eP (eC 4 nR lX) fm)))) (oO (.o2 .seq acO (eC 0 C4 lX)) [])),
  (fF Pp [], oO (.o2 .le lX (.o1 .ab C4)) (oT (.o2 .cJ C4 lX) C4 []))]
def zo : List (aa × List Ob) :=
 [([], [])]
abbrev P9 : E := .o1 .ab (.v 7198)
abbrev Rr : E := .uf 106 (eP (.v 7198) fm)
def Fu : List (aa × List Ob) :=
 [(fT (.o2 .aN P9 fm) [], oT fm Rr []),
  (fF (.o2 .aN P9 fm) [], oO (.o2 .le P9 (.o1 .ab Rr)) (oT (.o2 .cJ Rr P9) Rr []))]
end Go.Proofs.YtdlppkhmmclipaaGreat.sxObj
namespace Go.Proofs.YtdlppkhmmclipaaGreat.sxObj
open Go.Sx Go.RowKit Go.Proofs.YtdlppkhmmclipaaGreat
set_option linter.unusedVariables false
set_option linter.unusedSimpArgs false
set_option maxRecDepth 100000
theorem cF {l : Dv} (h : dF l.T) {n : Nat} (hn : n < l.T.length) : Ra (cc (row l n) 0) (cc (row l n) 1) (cc (row l n) 4) := h _ (ef hn)
theorem map_take {f : Row -> Row} {l : Dv} {r : Nat} (h : ¬ (r : Int) < (l.T.length : Int)) : (l.T.map f).take r = l.T.map f := eF (by rw [List.length_map]; omega)
theorem tu {l : List Row} (h : ¬ (0 : Int) < (l.length : Int)) : l = [] := List.length_eq_zero_iff.1 (by omega)
section
variable {o : Env}
theorem EB (hr : o.v 2100 = .i (0 : Nat)) : bn o Aa := by
 simp only [Aa, af, au, and_true]
 and_intros
 all_goals intro h
 all_goals simp only [SS, implies_true, hr] at h ⊢
 exact (tu (by simpa using h)).symm
theorem EF {r : Nat} (hr : o.v 2100 = .i r) : bn o AJ := by
 simp only [AJ, af, au, and_true]
 and_intros
 all_goals intro h
 all_goals simp only [SS, implies_true, hr] at h ⊢
 exact eF (by omega)
theorem FI (hu : OU o) (hent : l9.aU.ay o) : bn o AM := by
 simp only [AM, af, au, and_true]; intro _; simp only [l9, FR, vE, pk, List.foldr, Nat.reduceAdd, SS, implies_true, hu.jq] at hent ⊢; have := (al.1 hent).2.2; omega
theorem Cu (hu : OU o) (hr : o.v 2101 = .i (0 : Nat)) (hent : (lO.aU 0).ay o) : bn o xm := by
 simp only [lO, Bf, vj, aB, pk, List.foldr, SS, implies_true, hu.mV] at hent; have hok := al.1 hent.1; simp only [xm, af, au, and_true]
 and_intros
 all_goals intro h
 all_goals simp only [SS, implies_true, hr, hu.jq, hu.Lb] at h ⊢
 ·have hl : 0 < (o.v 7120).T.length := by omega
  refine ⟨al.2 (cF hok hl), ?_⟩; rw [iB (by simpa using hl)]
  rfl
 ·have := tu (l := (o.v 7120).T) (by simpa using h)
  rw [this]; rfl
theorem CO (hu : OU o) {r : Nat} (hr : o.v 2101 = .i r) (hent : (lO.aU 0).ay o) (hle : (r : Int) <= ((aB (.v 7120)).den o).I) : bn o yd := by
 simp only [lO, Bf, vj, aB, pk, List.foldr, SS, implies_true, hu.mV] at hent hle; have hok := al.1 hent.1; simp only [yd, af, au, and_true]
 and_intros
 all_goals intro h
 all_goals simp only [SS, implies_true, hr, hu.jq, hu.Lb] at h ⊢
 ·have hl : r < (o.v 7120).T.length := by omega
  refine ⟨al.2 (cF hok hl), ?_⟩; rw [iB (by simpa using hl)]
  rfl
 ·exact ⟨by rw [List.length_map]; omega, map_take h⟩
theorem DW (hr : o.v 2102 = .i (0 : Nat)) : bn o yc := by
 simp only [yc, af, au, and_true]
 and_intros
 all_goals intro h
 all_goals simp only [SS, implies_true, hr] at h ⊢
 exact (tu (by simpa using h)).symm
theorem CC {r : Nat} (hr : o.v 2102 = .i r) : bn o xa := by
 simp only [xa, af, au, and_true]
 and_intros
 all_goals intro h
 all_goals simp only [SS, implies_true, hr] at h ⊢
 exact eF (by omega)
theorem DQ (hu : OU o) (hent : ja.aU.ay o) : bn o xH := by
 simp only [xH, af, au, and_true]; intro _; simp only [ja, FR, cE, pk, List.foldr, SS, implies_true, hu.jq] at hent ⊢; have := (al.1 hent).2.2; omega
theorem Jd (hu : OU o) (hent : sd.aU.ay o) : bn o EY := by
 simp only [sd, FR, cE, pk, List.foldr, SS, implies_true, hu.jq] at hent; have hs := al.1 hent; have h1 := hs.1; have h2 := hs.2.1; have hz : (ByteArray.mk [47].toArray).size = 1 := rfl; simp only [EY, af, au, and_true]
 and_intros
 all_goals intro h
 all_goals simp only [SS, implies_true, hu.mr, ByteArray.size_append, hz] at h ⊢
 ·refine ⟨by omega, by omega, ?_⟩
  unfold jo; rw [if_neg (by omega)]
 ·unfold jo; rw [if_pos (by omega)]
theorem ED : bn o BM := by
 simp only [BM, af, au, and_true]
 and_intros
 all_goals intro h
 all_goals simp only [SS, implies_true]
theorem Cb (hu : OU o) (hent : fv.aU.ay o) : bn o wQ := by
 simp only [fv, FR, vE, pk, List.foldr, Nat.reduceAdd, SS, implies_true, hu.jq] at hent; have hs := al.1 hent; have h1 := hs.1; have h2 := hs.2.1; have hz : (ByteArray.mk [47].toArray).size = 1 := rfl; have he : (ByteArray.mk [].toArray).toList = [] := by rw [toList_data]
 have h0 : ∀ b : ByteArray, b.size = 0 ↔ b.toList = [] := fun b => by
  rw [toList_data]; show b.data.size = 0 ↔ _; rw [<- Array.length_toList, List.length_eq_zero_iff]
 simp only [wQ, af, au, and_true]
 and_intros
 all_goals intro h
 all_goals simp only [SS, implies_true, hu.mr, ByteArray.size_append, hz, he, <- h0] at h ⊢
 ·unfold jo; rw [if_pos h.1]
 ·refine ⟨by omega, by omega, ?_⟩
  unfold jo; rw [if_neg fun e => h.1 ((h0 _).1 e)]
theorem Dd {l : Dv} {k : ByteArray} {r : Nat} (hr : r <= iL l k) (hl : r < l.T.length) (h : dq (kS (row l r)) k = true) : r < iL l k := by
 refine rS hr hl ?_; unfold J5; rw [h]; rfl
theorem Du {l : Dv} {k : ByteArray} {r : Nat} (hr : r <= iL l k) (hl : r < l.T.length) (h : dq (kS (row l r)) k = false) : r = iL l k /\ iL l k < l.T.length := by
 have hb : J5 l k r = true := by unfold J5; rw [h]; rfl
 have hs := Dg hr hl hb; refine ⟨?_, hs⟩; rcases Nat.lt_or_ge r (iL l k) with cV | hge
 ·have : J5 l k r = false := bI (n := l.T.length) cV; rw [hb] at this; cases this
 ·omega
theorem vi {l : Dv} {k : ByteArray} (h : iL l k < l.T.length) : gZ l k = ((kS (row l (iL l k))).toList == k.toList) := by
 unfold gZ; rw [decide_eq_true h]; rfl
theorem xI {r : Row} (h : (cc r 6).B = true) : kS r = ⟨#[]⟩ := by unfold kS bad; rw [if_pos h]
theorem mW {r : Row} (h : (cc r 6).B = false) : kS r = jo (cc r 0).S (cc r 1).S := by unfold kS bad; rw [if_neg (by rw [h]; simp)]; rfl
section
variable {o : Env}
theorem FY (hu : OU o) {r : Nat} (hr : o.v 2103 = .i r) (hent : (pN.aU 0).ay o) (hle : (r : Int) <= ((E.uf 104 Oa).den o).I) : bn o AK := by
 simp only [pN, vj, aB, Oa, pk, List.foldr, SS, implies_true, hu.mV, hu.AB] at hent hle; have hok := al.1 hent.1; have hmax := hent.2; have hle : r <= iL (o.v 7170) (o.v 7171).S := by omega
 have hlen := zZ (o.v 7170) (o.v 7171).S; have he : (ByteArray.mk [].toArray) = ⟨#[]⟩ := rfl; simp only [AK, af, au, and_true]
 and_intros
 all_goals intro h
 all_goals simp only [SS, implies_true, hr, hu.mr, hu.AB, hu.Ga, hu.jq, he] at h ⊢
 ·have hl : r < (o.v 7170).T.length := by omega
  have := Dd (k := (o.v 7171).S) hle hl (by rw [xI h.2.1]; exact h.1)
  exact ⟨by omega, al.2 (cF hok hl)⟩
 ·have hl : r < (o.v 7170).T.length := by omega
  obtain ⟨h1, h2⟩ := Du (k := (o.v 7171).S) hle hl (by rw [xI h.2.1]; exact h.1)
  refine ⟨by omega, al.2 (cF hok hl), by omega, ?_⟩
  rw [vi h2, <- h1, xI h.2.1]
 ·have hl : r < (o.v 7170).T.length := by omega
  have := Dd (k := (o.v 7171).S) hle hl (by rw [mW h.2.1]; exact h.1)
  exact ⟨by omega, al.2 (cF hok hl)⟩
 ·have hl : r < (o.v 7170).T.length := by omega
  obtain ⟨h1, h2⟩ := Du (k := (o.v 7171).S) hle hl (by rw [mW h.2.1]; exact h.1)
  refine ⟨by omega, al.2 (cF hok hl), by omega, ?_⟩
  rw [vi h2, <- h1, mW h.2.1]
 ·omega
theorem CW (hu : OU o) : bn o xj := by
 have hlen := zZ (o.v 7173) (o.v 7174).S; simp only [xj, af, au, and_true]
 and_intros
 all_goals intro h
 all_goals simp only [SS, implies_true, hu.AB, hu.Ga] at h ⊢
 refine ⟨by omega, ?_⟩
 unfold gZ; rw [decide_eq_false (by omega)]; rfl
theorem Aw {l : Dv} {k : ByteArray} (h : gZ l k = true) : iL l k < l.T.length := by
 unfold gZ at h; rw [Bool.and_eq_true] at h; exact of_decide_eq_true h.1
theorem Jt (hu : OU o) (hent : gP.aU.ay o) : bn o qU := by
 simp only [gP, vj, FR, vE, aB, pk, List.foldr, Nat.reduceAdd, SS, implies_true, hu.mV, hu.jq] at hent; obtain ⟨_, _, hb, hmax⟩ := hent; have hlen := zZ (o.v 7180) (jo (o.v 7181).S (o.v 7182).S); have cV := @Aw (o.v 7180) (jo (o.v 7181).S (o.v 7182).S); simp only [qU, af, au, and_true]
 and_intros
 all_goals intro h
 all_goals simp only [SS, implies_true, hu.mr, hu.AB, hu.Ga, hu.KJ] at h ⊢
 all_goals simp only [ew, h, true_implies, Bool.false_eq_true, false_implies] at cV ⊢
 all_goals generalize iL (o.v 7180) (jo (o.v 7181).S (o.v 7182).S) = n at *
 all_goals simp only [List.length_drop, List.length_take, if_true, if_false, Bool.false_eq_true, qS, Int.toNat_natCast] at h ⊢
 all_goals have e1 : (min n (o.v 7180).T.length) = n := by omega
 all_goals rw [e1] at h
 all_goals and_intros
 all_goals first
  | omega
  | (have h0 : n = 0 := by omega
     subst h0
     first
      | rfl
      | (rw [List.drop_of_length_le (by omega)]; rfl))
  | (simp only [List.append_assoc, List.cons_append, List.nil_append]; done)
  | (rw [List.drop_of_length_le (by omega)])
  | skip
theorem BZ (hu : OU o) (hent : fS.aU.ay o) : bn o mc := by
 simp only [fS, vj, aB, pk, List.foldr, SS, implies_true, hu.mV] at hent; obtain ⟨_, hmax⟩ := hent; have hlen := zZ (o.v 7190) (o.v 7191).S; have cV := @Aw (o.v 7190) (o.v 7191).S; simp only [mc, af, au, and_true]
 and_intros
 all_goals intro h
 all_goals simp only [SS, implies_true, hu.AB, hu.Ga, hu.Qv] at h ⊢
 all_goals simp only [cO, h, true_implies, Bool.false_eq_true, false_implies] at cV ⊢
 all_goals generalize iL (o.v 7190) (o.v 7191).S = n at *
 all_goals simp only [List.length_drop, List.length_take, if_true, if_false, Bool.false_eq_true, qS, Int.toNat_natCast] at h ⊢
 all_goals have e1 : (min n (o.v 7190).T.length) = n := by omega
 all_goals try rw [e1] at h
 all_goals and_intros
 all_goals first
  | omega
  | (have h0 : n = 0 := by omega
     subst h0
     first
      | rfl
      | (rw [List.drop_of_length_le (by omega)]; rfl))
  | (rw [List.drop_of_length_le (by omega), List.append_nil])
  | trivial
theorem Ah (hu : OU o) (hr : o.v 2104 = .i (0 : Nat)) (hent : (jx.aU 0).ay o) : bn o td := by
 simp only [jx, Bf, vj, aB, pk, List.foldr, SS, implies_true, hu.mV] at hent; have hok := al.1 hent.1; have he : (ByteArray.mk [].toArray) = ⟨#[]⟩ := rfl; simp only [td, af, au, and_true]
 and_intros
 all_goals intro h
 all_goals simp only [SS, implies_true, hr, hu.jq, hu.Ki, hu.mr, he] at h ⊢
 ·have hl : 0 < (o.v 7195).T.length := by omega
  refine ⟨al.2 (cF hok hl), ?_⟩; rw [iB (by simpa using hl)]
  show _ = (kS (row (o.v 7195) 0)).toList; rw [xI h.1]
 ·have hl : 0 < (o.v 7195).T.length := by omega
  refine ⟨al.2 (cF hok hl), ?_⟩; rw [iB (by simpa using hl)]
  show _ = (kS (row (o.v 7195) 0)).toList; rw [mW h.1]
 ·have := tu (l := (o.v 7195).T) (by simpa using h)
  rw [this]; rfl
theorem AN (hu : OU o) {r : Nat} (hr : o.v 2104 = .i r) (hent : (jx.aU 0).ay o) (hle : (r : Int) <= ((aB (.v 7195)).den o).I) : bn o tL := by
 simp only [jx, Bf, vj, aB, pk, List.foldr, SS, implies_true, hu.mV] at hent hle; have hok := al.1 hent.1; have he : (ByteArray.mk [].toArray) = ⟨#[]⟩ := rfl; simp only [tL, af, au, and_true]
 and_intros
 all_goals intro h
 all_goals simp only [SS, implies_true, hr, hu.jq, hu.Ki, hu.mr, he] at h ⊢
 ·have hl : r < (o.v 7195).T.length := by omega
  refine ⟨al.2 (cF hok hl), ?_⟩; rw [iB (by simpa using hl)]
  show _ = (kS (row (o.v 7195) r)).toList; rw [xI h.1]
 ·have hl : r < (o.v 7195).T.length := by omega
  refine ⟨al.2 (cF hok hl), ?_⟩; rw [iB (by simpa using hl)]
  show _ = (kS (row (o.v 7195) r)).toList; rw [mW h.1]
 ·exact ⟨by rw [List.length_map]; omega, map_take h⟩
theorem I5 (hu : OU o) : bn o Fu := by
 simp only [Fu, af, au, and_true]
 and_intros
 all_goals intro h
 all_goals simp only [SS, implies_true, hu.ME] at h ⊢
 ·have := tu (l := (o.v 7198).T) (by omega)
  rw [this]; simp [eL]
 ·exact ⟨by rw [yW]; omega, eF (by rw [yW]; omega)⟩
end
end
end Go.Proofs.YtdlppkhmmclipaaGreat.sxObj
namespace Go.Proofs.YtdlppkhmmclipaaGreat
open Go Go.Shelf Go.Sx Go.Sort
def ba : Ren :=
{
 f := fun x =>
  match x with
  | 190 => 69
  | 125 => 91
  | 258 => 90
  | 128 => 106
  | 129 => 107
  | 302 => 97
  | 303 => 98
  | 304 => 99
  | 305 => 100
  | 306 => 101
  | 307 => 102
  | 308 => 103
  | 309 => 104
  | 310 => 105
  | 333 => 110
  | 329 => 111
  | 330 => 112
  | 334 => 113
  | 335 => 114
  | 336 => 115
  | 344 => 117
  | n => n,
 t := fun x =>
  match x with
  | 31 => 34
  | 9 => 9
  | 3 => 3
  | 46 => 200
  | 0 => 0
  | 51 => 226
  | 53 => 228
  | 4 => 4
  | 183 => 219
  | 182 => 218
  | 131 => 40
  | 5 => 5
  | 218 => 233
  | 222 => 237
  | 228 => 239
  | 229 => 240
  | n => n,
 g := fun x =>
  have n := x;
  n }
theorem OX : Lays.n190 Tryz.prog ba :=
{ mixed := Eq.refl true, f125 := Eq.trans Tryz.func91 (congrArg some (Eq.refl (Body.n125 ba))),
  f128 := Eq.trans Tryz.func106 (congrArg some (Eq.refl (Body.n128 ba))),
  f129 := Eq.trans Tryz.func107 (congrArg some (Eq.refl (Body.n129 ba))),
  f190 := Eq.trans Tryz.func69 (congrArg some (Eq.refl (Body.n190 ba))),
  f258 := Eq.trans Tryz.func90 (congrArg some (Eq.refl (Body.n258 ba))),
  f302 := Eq.trans Tryz.func97 (congrArg some (Eq.refl (Body.n302 ba))),
  f303 := Eq.trans Tryz.func98 (congrArg some (Eq.refl (Body.n303 ba))),
  f304 := Eq.trans Tryz.func99 (congrArg some (Eq.refl (Body.n304 ba))),
  f305 := Eq.trans Tryz.func100 (congrArg some (Eq.refl (Body.n305 ba))),
  f306 := Eq.trans Tryz.func101 (congrArg some (Eq.refl (Body.n306 ba))),
  f307 := Eq.trans Tryz.func102 (congrArg some (Eq.refl (Body.n307 ba))),
  f308 := Eq.trans Tryz.func103 (congrArg some (Eq.refl (Body.n308 ba))),
  f309 := Eq.trans Tryz.func104 (congrArg some (Eq.refl (Body.n309 ba))),
  f310 := Eq.trans Tryz.func105 (congrArg some (Eq.refl (Body.n310 ba))),
  f329 := Eq.trans Tryz.func111 (congrArg some (Eq.refl (Body.n329 ba))),
  f330 := Eq.trans Tryz.func112 (congrArg some (Eq.refl (Body.n330 ba))),
  f333 := Eq.trans Tryz.func110 (congrArg some (Eq.refl (Body.n333 ba))),
  f334 := Eq.trans Tryz.func113 (congrArg some (Eq.refl (Body.n334 ba))),
  f335 := Eq.trans Tryz.func114 (congrArg some (Eq.refl (Body.n335 ba))),
  f336 := Eq.trans Tryz.func115 (congrArg some (Eq.refl (Body.n336 ba))),
  f344 := Eq.trans Tryz.func117 (congrArg some (Eq.refl (Body.n344 ba))), t0 := Tryz.underlying0,
  a0 := Tryz.isAgg0, z0 := Tryz.sizeOf0, v0 := Tryz.zeroValue0, t3 := Tryz.underlying3, a3 := Tryz.isAgg3,
  z3 := Tryz.sizeOf3, v3 := Tryz.zeroValue3, t4 := Tryz.underlying4, a4 := Tryz.isAgg4, z4 := Tryz.sizeOf4,
  v4 := Tryz.zeroValue4, t5 := Tryz.underlying5, a5 := Tryz.isAgg5, z5 := Tryz.sizeOf5, v5 := Tryz.zeroValue5,
  t9 := Tryz.underlying9, a9 := Tryz.isAgg9, z9 := Tryz.sizeOf9, v9 := Tryz.zeroValue9, t31 := Tryz.underlying34,
  a31 := Tryz.isAgg34, z31 := Tryz.sizeOf34, v31 := Tryz.zeroValue34, t46 := Tryz.underlying200, a46 := Tryz.isAgg200,
  z46 := Tryz.sizeOf200, v46 := Tryz.zeroValue200, t51 := Tryz.underlying226, a51 := Tryz.isAgg226,
  z51 := Tryz.sizeOf226, v51 := Tryz.zeroValue226, t53 := Tryz.underlying228, a53 := Tryz.isAgg228,
  z53 := Tryz.sizeOf228, v53 := Tryz.zeroValue228, t131 := Tryz.underlying40, a131 := Tryz.isAgg40,
  z131 := Tryz.sizeOf40, v131 := Tryz.zeroValue40, t182 := Tryz.underlying218, a182 := Tryz.isAgg218,
  z182 := Tryz.sizeOf218, v182 := Tryz.zeroValue218, t183 := Tryz.underlying219, a183 := Tryz.isAgg219,
  z183 := Tryz.sizeOf219, v183 := Tryz.zeroValue219, t218 := Tryz.underlying233, a218 := Tryz.isAgg233,
  z218 := Tryz.sizeOf233, v218 := Tryz.zeroValue233, t222 := Tryz.underlying237, a222 := Tryz.isAgg237,
  z222 := Tryz.sizeOf237, v222 := Tryz.zeroValue237, t228 := Tryz.underlying239, a228 := Tryz.isAgg239,
  z228 := Tryz.sizeOf239, v228 := Tryz.zeroValue239, t229 := Tryz.underlying240, a229 := Tryz.isAgg240,
  z229 := Tryz.sizeOf240, v229 := Tryz.zeroValue240 }
theorem Jf (blk off cap : Nat) (ss : List (List UInt8)) (w : World) (hH : Holds encStr w blk off ss.toArray) (hb : blk < w.heap.size) (hl : ss.length < 4611686018427387904) :
    Calls Tryz.prog 69 #[.slice (some ⟨blk, off, none⟩) ss.length cap] w fun e w' => e = .returned (.tuple #[]) /\ ∃ n os, w' = grow (putRow encStr (Sort.ahead w n) blk off (ss.mergeSort leB).toArray) os :=
 Any.slices_Sort_string (ρ := ba) OX blk off cap ss w hH hb hl
end Go.Proofs.YtdlppkhmmclipaaGreat
namespace Go.Proofs.YtdlppkhmmclipaaGreat.sxObj
open Go.Sx Go.RowKit Go.Proofs.YtdlppkhmmclipaaGreat
set_option linter.unusedVariables false
set_option linter.unusedSimpArgs false
set_option maxRecDepth 100000
theorem plain : Plain Tryz.prog := LL (by kernel_rfl)
theorem mixed : Tryz.prog.follows .mixedOrders = true := by kernel_rfl
theorem bk {m : Nat} (h : Nat.beq m 0 = true) : m = 0 := Nat.eq_of_beq_eq_true h
theorem vF {m : Nat} (h : Nat.beq m 1 = true) : m = 1 := Nat.eq_of_beq_eq_true h
theorem Q9 (d : Dv) : ar d 0 = d.row.headD (.i 0) := by
 unfold ar cc row Dv.row; cases d.T with
 | nil => rfl
 | cons a l => cases a <;> rfl
section
variable {o : Env}
theorem ij {l : E} : ∀ e : Env, 0 <= ((aB l).den e).I := fun e => by
 show (0 : Int) <= (((l.den e).T.length : Nat) : Int); omega
theorem LB : Gn Tryz.prog A6 (aB (.v 7104)) Aa AJ := ⟨by kernel_rfl, by kernel_rfl, by kernel_rfl, rfl, rfl, by kernel_rfl, rfl, fun m h => bk h, fun m h => vF h, fun _ => rfl⟩
theorem Iy : dz Tryz.prog o la 3 A6.cW :=
 LB.ok plain mixed (fun o _ _ => ij o) (fun _ _ _ => ct) (fun o _ _ hr _ => EB hr) (fun o i _ _ hr _ _ => EF hr)
theorem Nj : l9.iK Tryz.prog = some AM := by kernel_rfl
theorem te (hu : OU o) : dZ Tryz.prog o la l9.aS :=
 cv plain mixed (D := l9) Nj (fun e A he => br (c := ⟨[], [(la, 3, A6.cW)]⟩) (by kernel_rfl) trivial ⟨Iy, trivial⟩ A) (fun e he h => FI (hu.aA he) h)
theorem JJ : Gn Tryz.prog lO (aB (.v 7120)) xm yd := ⟨by kernel_rfl, by kernel_rfl, by kernel_rfl, rfl, rfl, by kernel_rfl, rfl, fun m h => bk h, fun m h => vF h, fun _ => rfl⟩
theorem Fq (hu : OU o) : dz Tryz.prog o mY 3 lO.cW :=
 JJ.ok plain mixed (fun o _ _ => ij o) (fun e A he => br (c := ⟨[(la, l9.aS)], []⟩) (by kernel_rfl) ⟨te (hu.aA he), trivial⟩ trivial A) (fun e he h hr _ => Cu (hu.aA he) hr h) (fun e i he h hr _ hl => CO (hu.aA he) hr h hl)
theorem Il : vq.iK Tryz.prog = some Ca := by kernel_rfl
theorem Fg (hu : OU o) : dZ Tryz.prog o mY vq.aS :=
 cv plain mixed (D := vq) Il (fun e A he => br (c := ⟨[], [(mY, 3, lO.cW)]⟩) (by kernel_rfl) trivial ⟨Fq (hu.aA he), trivial⟩ A) (fun e he h => by simp only [Ca, af, au, and_true]; intro _; simp only [sa])
theorem JV : Gn Tryz.prog vk (aB (cE x0 i0 4)) yc xa := ⟨by kernel_rfl, by kernel_rfl, by kernel_rfl, rfl, rfl, by kernel_rfl, rfl, fun m h => bk h, fun m h => vF h, fun _ => rfl⟩
theorem F8 : dz Tryz.prog o im 9 vk.cW :=
 JV.ok plain mixed (fun o _ _ => ij o) (fun _ _ _ => ct) (fun o _ _ hr _ => DW hr) (fun o i _ _ hr _ _ => CC hr)
theorem IK : ja.iK Tryz.prog = some xH := by kernel_rfl
theorem qI (hu : OU o) : dZ Tryz.prog o im ja.aS :=
 cv plain mixed (D := ja) IK (fun e A he => br (c := ⟨[], [(im, 9, vk.cW)]⟩) (by kernel_rfl) trivial ⟨F8, trivial⟩ A) (fun e he h => DQ (hu.aA he) h)
theorem P0 : sd.iK Tryz.prog = some EY := by kernel_rfl
theorem vR (hu : OU o) : dZ Tryz.prog o ua sd.aS := cv plain mixed (D := sd) P0 (fun _ _ _ => ct) (fun e he h => Jd (hu.aA he) h)
theorem Ln : qK.iK Tryz.prog = some BM := by kernel_rfl
theorem zF (hu : OU o) : dZ Tryz.prog o tz qK.aS :=
 cv plain mixed (D := qK) Ln (fun e A he => br (c := ⟨[(la, l9.aS), (ua, sd.aS)], []⟩) (by kernel_rfl) ⟨te (hu.aA he), vR (hu.aA he), trivial⟩ trivial A) (fun e he h => ED)
theorem I3 : fv.iK Tryz.prog = some wQ := by kernel_rfl
theorem kx (hu : OU o) : dZ Tryz.prog o ig fv.aS := cv plain mixed (D := fv) I3 (fun _ _ _ => ct) (fun e he h => Cb (hu.aA he) h)
theorem It : gH Tryz.prog pN (.uf 104 Oa) AK := ⟨by kernel_rfl, by kernel_rfl, rfl, by kernel_rfl, rfl, fun m h => bk h, fun m h => bk h, fun ν => by cases ν with | zero => rfl | succ n => cases n <;> rfl⟩
theorem FC (hu : OU o) : dz Tryz.prog o iC 2 pN.cW :=
 It.ok plain mixed (fun e he _ => by
  show 0 <= (e.uf 104 (Oa.den e)).I; rw [(hu.aA he).AB]
  exact Int.natCast_nonneg _) (fun e A he => br (c := ⟨[(ig, fv.aS)], []⟩) (by kernel_rfl) ⟨kx (hu.aA he), trivial⟩ trivial A) (fun e i he h hr hl => FY (hu.aA he) hr h hl)
theorem Iu : lv.iK Tryz.prog = some xj := by kernel_rfl
theorem qN (hu : OU o) : dZ Tryz.prog o iC lv.aS :=
 cv plain mixed (D := lv) Iu (fun e A he => br (c := ⟨[], [(iC, 2, pN.cW)]⟩) (by kernel_rfl) trivial ⟨FC (hu.aA he), trivial⟩ A) (fun e he h => CW (hu.aA he))
theorem CR : gP.iK Tryz.prog = some qU := by kernel_rfl
theorem sq (hu : OU o) : dZ Tryz.prog o ml gP.aS :=
 cv plain mixed (D := gP) CR (fun e A he => br (c := ⟨[(ig, fv.aS), (iC, lv.aS)], []⟩) (by kernel_rfl) ⟨kx (hu.aA he), qN (hu.aA he), trivial⟩ trivial A) (fun e he h => Jt (hu.aA he) h)
theorem wE : fS.iK Tryz.prog = some mc := by kernel_rfl
theorem uL (hu : OU o) : dZ Tryz.prog o mT fS.aS :=
 cv plain mixed (D := fS) wE (fun e A he => br (c := ⟨[(iC, lv.aS)], []⟩) (by kernel_rfl) ⟨qN (hu.aA he), trivial⟩ trivial A) (fun e he h => BZ (hu.aA he) h)
theorem Fo : Gn Tryz.prog jx (aB (.v 7195)) td tL := ⟨by kernel_rfl, by kernel_rfl, by kernel_rfl, rfl, rfl, by kernel_rfl, rfl, fun m h => bk h, fun m h => vF h, fun _ => rfl⟩
theorem Ed (hu : OU o) : dz Tryz.prog o kP 3 jx.cW :=
 Fo.ok plain mixed (fun o _ _ => ij o) (fun e A he => br (c := ⟨[(ig, fv.aS)], []⟩) (by kernel_rfl) ⟨kx (hu.aA he), trivial⟩ trivial A) (fun e he h hr _ => Ah (hu.aA he) hr h) (fun e i he h hr _ hl => AN (hu.aA he) hr h hl)
theorem Fv : rP.iK Tryz.prog = some zo := by kernel_rfl
theorem Dt (hu : OU o) : dZ Tryz.prog o kP rP.aS :=
 cv plain mixed (D := rP) Fv (fun e A he => br (c := ⟨[], [(kP, 3, jx.cW)]⟩) (by kernel_rfl) trivial ⟨Ed (hu.aA he), trivial⟩ A) (fun e he h => by simp only [zo, af, au, and_true]; intro _; simp only [sa])
theorem WQ : (MZ CT).iK Tryz.prog = some [([], [])] := by kernel_rfl
theorem CN (hu : OU o) : dZ Tryz.prog o CT (zk 106) := PD plain mixed WQ (fun blk off cap ss w a b c => Jf blk off cap ss w a b c) (fun d => by rw [hu.ME d, Q9])
theorem OA : Hw.iK Tryz.prog = some Fu := by kernel_rfl
theorem Nf (hu : OU o) : dZ Tryz.prog o ML Hw.aS :=
 cv plain mixed (D := Hw) OA (fun e A he => br (c := ⟨[(CT, zk 106)], []⟩) (by kernel_rfl) ⟨CN (hu.aA he), trivial⟩ trivial A) (fun e he h => I5 (hu.aA he))
end
def uP : SV := .fn (.func Ql) [] []
def iS (e : E) : SV := .int .i64 e
def lY (l : E) : E × Bool := (.o2 .le (aB l) (.il 1000000), true)
def uZ (l : E) : aa := [(.uf 112 (pk [l]), true), (vj l, true), lY l]
def cP (a b : E) : E × Bool := (.o2 .le a b, true)
def r9 (a b : E) : E × Bool := (.o2 .lt a b, true)
def N8 : cA where
 f := Ql
 args := [.agg (qO (vE 7260)), .agg (qO (vE 7270))]
 params := ke 7260 7268 ++ ke 7270 7278
 aU := [(FR (vE 7260), true), (FR (vE 7270), true), (.v 7266, false), (.v 7276, false), (.o2 .slt (s4 (vE 7260)) (s4 (vE 7270)), false)]
 app := fun _ => true
 bp := [(.o2 .slt (s4 (vE 7270)) (s4 (vE 7260)), 1), (.bl true, 0)]
 kind := fun r => match r with | .int _ (.il 1) => some 1 | .int _ (.il 0) => some 0 | _ => none
 out := fun n => match n with | 0 => iS (.il 0) | _ => iS (.il 1)
 X := (⟨[(tz, qK.aS)], []⟩ : gX).x
 fuel := 300; np := 80
def IS : gX := ⟨[(Ql, N8.aS)], []⟩
def NM : aa := uZ (.v 7200) ++ [cP (.il 0) (.v 7201), cP (.v 7201) (.v 7202), cP (.v 7202) (aB (.v 7200))]
def LK : ak where
 f := iZ; key := 1; N := 53; r := 2110; base := 115000
 js := [9] ++ ke 12 53
 hd := fun _ => ⟨[(0, .bQ dm (.v 7200)), (1, iS (.v 7201)), (2, iS (.v 7202)), (3, uP), (8, iS (.o2 .add (.o2 .add (.v 7201) (.il 1)) (.v 2110)))], [], 9,
  cP (.il 0) (.v 2110) :: cP (.v 2110) (.o2 .sub (.v 7202) (.v 7201)) :: NM⟩
 aU := fun _ => NM
 app := fun _ => true
 mS := fun m => Nat.beq m 0
 dD := fun _ => .ret 0
 ll := fun m => Nat.beq m 0
 mf := fun _ => []
 hx := fun _ => ⟨[(0, .top), (1, .top), (2, .top), (3, .top), (8, .top)], [], 9, []⟩
 sQ := fun _ _ => .ret 0
 nU := fun _ => .exit 0
 bp := [(.bl true, 0)]
 fixed := []
 lt := .o2 .lt (.v 2110) (.o2 .sub (.v 7202) (.v 7201))
 X := IS.x
 fuel := 400; np := 80
 params := [7200, 7201, 7202]
def Gc : cA where
 f := iZ
 args := [.bQ dm (.v 7205), iS (.v 7206), iS (.v 7207), uP]
 params := [7205, 7206, 7207]
 aU := uZ (.v 7205) ++ [cP (.il 0) (.v 7206), cP (.v 7206) (.v 7207), cP (.v 7207) (aB (.v 7205))]
 app := fun _ => true
 bp := [(.bl true, 0)]
 kind := fun _ => some 0
 out := fun _ => .fk []
 X := (⟨[], [(iZ, 1, LK.cW)]⟩ : gX).x
 fuel := 400; np := 80
def dnA (r : E) : E := .uf 121 (pk [.v 7212, .v 7213, r])
def K9 (l a m b : Nat) : aa := uZ (.v l) ++ [cP (.il 0) (.v a), r9 (.v a) (.v m), r9 (.v m) (.v b), cP (.v b) (aB (.v l))]
def Ny (l a m : Nat) : aa := uZ (.v l) ++ [cP (.il 0) (.v a), r9 (.v a) (.v m), r9 (.v m) (aB (.v l))]
def OS : ak where
 f := cH; key := 3; N := 220; r := 2111; base := 116000
 js := [12] ++ ke 31 54
 hd := fun _ => ⟨[(0, .bQ dm (.v 7210)), (1, iS (.v 7211)), (4, uP), (10, iS (.v 7212)), (11, iS (dnA (.v 2111)))], [], 9,
  cP (.il 0) (.v 2111) :: cP (.v 2111) (.o2 .sub (.v 7213) (.v 7212)) :: K9 7210 7211 7212 7213⟩
 aU := fun _ => K9 7210 7211 7212 7213
 app := fun _ => true
 mS := fun m => Nat.beq m 0
 dD := fun _ => .ret 0
 ll := fun m => Nat.beq m 0
 mf := fun _ => []
 hx := fun _ => ⟨[(0, .bQ dm (.v 7210)), (1, iS (.v 7211)), (4, .top), (10, iS (.v 7212)), (11, .top)], [], 9, []⟩
 sQ := fun _ _ => .ret 0
 nU := fun _ => .exit 0
 bp := [(.bl true, 0)]
 fixed := []
 lt := .o2 .lt (.v 2111) (.o2 .sub (.v 7213) (.v 7212))
 X := IS.x
 fuel := 400; np := 80
 params := [7210, 7211, 7212, 7213]
 pins := fun sl => match nth sl 11 with | some (.int _ e) => [(7213, e)] | _ => []
def upA (r : E) : E := .uf 122 (pk [.v 7216, .v 7217, r])
def Oo : ak where
 f := cH; key := 15; N := 220; r := 2112; base := 117000
 js := [16] ++ ke 83 107
 hd := fun _ => ⟨[(0, .bQ dm (.v 7215)), (2, iS (.v 7217)), (4, uP), (14, iS (upA (.v 2112))), (15, iS (.v 7217))], [], 9,
  cP (.il 0) (.v 2112) :: cP (.v 2112) (.o2 .sub (.v 7217) (.v 7216)) :: Ny 7215 7216 7217⟩
 aU := fun _ => Ny 7215 7216 7217
 app := fun _ => true
 mS := fun m => Nat.beq m 0
 dD := fun _ => .ret 0
 ll := fun m => Nat.beq m 0
 mf := fun _ => []
 hx := fun _ => ⟨[(0, .bQ dm (.v 7215)), (2, iS (.v 7217)), (4, .top), (14, iS (.v 7217)), (15, .top)], [], 9, []⟩
 sQ := fun _ _ => .ret 0
 nU := fun _ => .exit 4
 bp := [(.bl true, 0)]
 fixed := []
 lt := .o2 .lt (.v 2112) (.o2 .sub (.v 7217) (.v 7216))
 X := IS.x
 fuel := 400; np := 80
 params := [7215, 7216, 7217]
 pins := fun sl => match nth sl 14 with | some (.int _ e) => [(7216, e)] | _ => []
def up3 (r : E) : E := .uf 122 (pk [.v 7221, .v 7222, r])
def TG : aa := uZ (.v 7220) ++ [cP (.il 0) (.v 7221), cP (.v 7221) (.v 7222), r9 (.o2 .sub (.v 7223) (.v 7221)) (aB (.v 7220)), cP (.o2 .mul (.il 2) (.v 7222)) (.o2 .add (.v 7223) (.il 1))]
def Rz : ak where
 f := cH; key := 33; N := 220; r := 2113; base := 118000
 js := [23] ++ ke 149 175
 hd := fun _ => ⟨[(0, .bQ dm (.v 7220)), (4, uP), (20, iS (up3 (.v 2113))), (21, iS (.v 7222)), (22, iS (.v 7223))], [], 9,
  cP (.il 0) (.v 2113) :: cP (.v 2113) (.o2 .sub (.v 7222) (.v 7221)) :: TG⟩
 aU := fun _ => TG
 app := fun _ => true
 mS := fun m => Nat.beq m 0
 dD := fun _ => .ret 0
 ll := fun m => Nat.beq m 0
 mf := fun _ => []
 hx := fun _ => ⟨[(0, .bQ dm (.v 7220)), (4, uP), (20, iS (.v 7222)), (21, .top), (22, iS (.v 7223))], [], 9, []⟩
 sQ := fun _ _ => .ret 0
 nU := fun _ => .exit 8
 bp := [(.bl true, 0)]
 fixed := []
 lt := .o2 .lt (.v 2113) (.o2 .sub (.v 7222) (.v 7221))
 X := IS.x
 fuel := 400; np := 80
 params := [7220, 7221, 7222, 7223]
 pins := fun sl => match nth sl 20 with | some (.int _ e) => [(7221, e)] | _ => []
def CG : cA where
 f := cH
 args := [.bQ dm (.v 7225), iS (.v 7226), iS (.v 7227), iS (.v 7228), uP]
 params := [7225, 7226, 7227, 7228]
 aU := K9 7225 7226 7227 7228
 app := fun args => match args with | [_, .int _ (.v 7226), .int _ (.v 7227), .int _ (.v 7228), _] => false | _ => true
 bp := [(.bl true, 0)]
 kind := fun _ => some 0
 out := fun _ => .fk []
 X := dg.none
 fuel := 600; np := 80
def DJ : E := .o2 .sub (.v 7228) (.v 7226)
def KM (args : List SV) (nx : Nat) : Option (Prog (SV × Nat)) := some (.fail "never")
def Yl : gX := ⟨[(Hm, KM), (cH, (cA.Ag CG 7229 DJ).aS)], [(cH, 3, OS.cW), (cH, 15, Oo.cW), (cH, 33, Rz.cW)]⟩
def ac9 : cA := cA.GD CG 7229 DJ Yl.x.xe
def Ck (l n : Nat) : aa := uZ (.v l) ++ [(.o2 .aN (.v n) (aB (.v l)), true)]
def FN (e : E) : E := .o2 .mul (.il 20) e
def Nq : ak where
 f := fc; key := 2; N := 63; r := 2114; base := 119000
 js := ke 11 23
 hd := fun _ => ⟨[(0, .bQ dm (.v 7230)), (1, iS (.v 7231)), (2, uP), (6, iS (.il 20)), (7, iS (FN (.v 2114))), (8, iS (.o2 .add (FN (.v 2114)) (.il 20)))], [], 9,
  cP (.il 0) (.v 2114) :: cP (.v 2114) (.o2 .quo (.v 7231) (.il 20)) :: Ck 7230 7231⟩
 aU := fun _ => Ck 7230 7231
 app := fun _ => true
 mS := fun m => Nat.beq m 0
 dD := fun _ => .ret 0
 ll := fun m => Nat.beq m 0
 mf := fun _ => []
 hx := fun _ => ⟨[(0, .bQ dm (.v 7230)), (1, iS (.v 7231)), (2, uP), (6, iS (.il 20)), (7, iS (FN (.o2 .quo (.v 7231) (.il 20)))), (8, .top)], [], 9, []⟩
 sQ := fun _ _ => .ret 0
 nU := fun _ => .exit 0
 bp := [(.bl true, 0)]
 fixed := []
 lt := .o2 .lt (.v 2114) (.o2 .quo (.v 7231) (.il 20))
 X := (⟨[(iZ, Gc.aS)], []⟩ : gX).x
 fuel := 400; np := 80
 params := [7230, 7231]
def tw (e : E) : E := .o2 .mul (.o2 .mul (.il 2) (.v 7236)) e
def Mg : aa := Ck 7234 7235 ++ [cP (.il 20) (.v 7236), r9 (.v 7236) (.v 7235)]
def Fm : E := .o2 .quo (.v 7235) (.o2 .mul (.il 2) (.v 7236))
def Nz : ak where
 f := fc; key := 9; N := 63; r := 2115; base := 120000
 js := ke 33 49
 hd := fun _ => ⟨[(0, .bQ dm (.v 7234)), (1, iS (.v 7235)), (2, uP), (6, iS (.v 7236)), (7, iS (tw (.v 2115))), (8, iS (.o2 .add (tw (.v 2115)) (.o2 .mul (.il 2) (.v 7236))))], [], 9,
  cP (.il 0) (.v 2115) :: cP (.v 2115) Fm :: Mg⟩
 aU := fun _ => Mg
 app := fun _ => true
 mS := fun m => Nat.beq m 0
 dD := fun _ => .ret 0
 ll := fun m => Nat.beq m 0
 mf := fun _ => []
 hx := fun _ => ⟨[(0, .bQ dm (.v 7234)), (1, iS (.v 7235)), (2, uP), (6, iS (.v 7236)), (7, iS (tw Fm)), (8, .top)], [], 9, []⟩
 sQ := fun _ _ => .ret 0
 nU := fun _ => .exit 4
 bp := [(.bl true, 0)]
 fixed := []
 lt := .o2 .lt (.v 2115) Fm
 X := (⟨[(cH, CG.aS)], []⟩ : gX).x
 fuel := 400; np := 80
 params := [7234, 7235, 7236]
def bsE (r : E) : E := .uf 123 (pk [r])
def Kw : ak where
 f := fc; key := 7; N := 63; r := 2116; base := 121000
 js := [7, 8, 9] ++ ke 28 63
 hd := fun _ => ⟨[(0, .bQ dm (.v 7240)), (1, iS (.v 7241)), (2, uP), (6, iS (bsE (.v 2116)))], [], 9,
  cP (.il 0) (.v 2116) :: cP (.v 2116) (.v 7241) :: Ck 7240 7241⟩
 aU := fun _ => Ck 7240 7241
 app := fun _ => true
 mS := fun m => Nat.beq m 0
 dD := fun _ => .ret 0
 ll := fun m => Nat.beq m 0
 mf := fun _ => []
 hx := fun _ => ⟨[(0, .top), (1, .top), (2, .top), (6, .top)], [], 9, []⟩
 sQ := fun _ _ => .ret 0
 nU := fun _ => .exit 2
 bp := [(.bl true, 0)]
 fixed := []
 lt := .o2 .lt (.v 2116) (.v 7241)
 X := (⟨[(cH, CG.aS)], [(fc, 9, Nz.cW)]⟩ : gX).x
 fuel := 400; np := 80
 params := [7240, 7241]
def pJ : cA where
 f := vw
 args := [.bQ dm (.v 7245)]
 params := [7245]
 aU := uZ (.v 7245)
 app := fun _ => true
 bp := [(.bl true, 0)]
 kind := fun _ => some 0
 out := fun _ => .bQ dm (.v 7245)
 X := (⟨[(iZ, Gc.aS)], [(fc, 2, Nq.cW), (fc, 7, Kw.cW)]⟩ : gX).x
 fuel := 400; np := 80
def okA (l : E) : E := .uf 113 (pk [l])
def jy : ak := Bf kV 3 21 2117 (ke 5 19) [(0, .bQ aK (.v 7250))] 3 4 qf dm (.uf 102 (pk [.v 7250])) (aB (.v 7250)) [(okA (.v 7250), true), lY (.v 7250)] [7250] (⟨[(im, ja.aS)], []⟩ : gX).x 0
def mQ : cA where
 f := kV
 args := [.bQ aK (.v 7251)]
 params := [7251]
 aU := [(okA (.v 7251), true), lY (.v 7251)]
 app := fun _ => true
 bp := [(.bl true, 0)]
 kind := fun _ => some 0
 out := fun _ => .bQ dm (.uf 102 (pk [.v 7251]))
 X := (⟨[(vw, pJ.aS)], [(kV, 3, jy.cW)]⟩ : gX).x
 fuel := 400; np := 80
end Go.Proofs.YtdlppkhmmclipaaGreat.sxObj
namespace Go.Proofs.YtdlppkhmmclipaaGreat.sxObj
open Go.Sx
set_option linter.unusedVariables false
set_option maxRecDepth 100000
abbrev fA : E := .il 0
abbrev oc1 : E := .o2 .slt (.uf 100 (eP (.v 7270) (eP (.v 7271) fA))) (.uf 100 (eP (.v 7260) (eP (.v 7261) fA)))
def Vy : List (aa × List Ob) :=
 [(fT oc1 [], []),
  (fF oc1 [], [])]
abbrev GF : E := .v 7200
abbrev yG : E := .il 1
abbrev JL : E := .o2 .add (.o2 .add (.v 7201) yG) (.v 2110)
abbrev XU : E := .o2 .sub JL yG
abbrev oc6 : E := .uf 100 (eP (eC 0 GF XU) (eP (eC 1 GF XU) fA))
abbrev oc7 : E := .uf 100 (eP (eC 0 GF JL) (eP (eC 1 GF JL) fA))
abbrev oc8 : aa := fT (.o2 .lt JL (.v 7202)) []
abbrev oc9 : aa := fT (.o2 .lt (.v 7201) JL) oc8
abbrev aaM : List Ob := oO (.o2 .aN (.o2 .add JL yG) (.o2 .add (.o2 .add (.v 7201) yG) (.o2 .add (.v 2110) yG))) []
abbrev acL : List Ob := oO (.o2 .lt (.v 2110) (.o2 .sub (.v 7202) (.v 7201))) (oO (.o1 .not (.o2 .slt oc7 oc6)) (oO (.o1 .not (eC 6 GF XU)) (oO (.o1 .not (eC 6 GF JL)) (oO (.uf 110 (eP (eC 0 GF XU) (eP (eC 1 GF XU) (eP (eC 4 GF XU) fA)))) (oO (.uf 110 (eP (eC 0 GF JL) (eP (eC 1 GF JL) (eP (eC 4 GF JL) fA)))) (oO (.o2 .lt XU (.o1 .ab GF)) (oO (.o2 .lt JL (.o1 .ab GF)) aaM)))))))
def VI : List (aa × List Ob) :=
 [(fT (.o2 .slt oc6 oc7) oc9, acL),
  (fF (.o2 .slt oc6 oc7) oc9, acL),
  (fF (.o2 .lt (.v 7201) JL) oc8, oO (.o2 .lt (.v 2110) (.o2 .sub (.v 7202) (.v 7201))) aaM),
  (fF (.o2 .lt JL (.v 7202)) [], [])]
def S2 : List (aa × List Ob) :=
 [([], [])]
abbrev uF : E := .v 7210
abbrev adF : E := eC 0 uF (.v 7211)
abbrev aae : E := eC 1 uF (.v 7211)
abbrev Xs : E := .uf 100 (eP adF (eP aae fA))
abbrev Xw : E := .uf 121 (eP (.v 7212) (eP (.v 7213) (eP (.v 2111) fA)))
abbrev Uo : E := .o2 .add (.v 7212) Xw
abbrev xW : E := .o2 .quo Uo (.il 2)
abbrev Vh : E := .uf 100 (eP (eC 0 uF xW) (eP (eC 1 uF xW) fA))
abbrev adr : aa := fT (.o2 .lt (.v 7212) Xw) []
abbrev iR : E := .il 9223372036854775807
abbrev jL : E := .il (-9223372036854775808)
abbrev Ue : E := .il 18446744073709551615
abbrev acX : List Ob := oO (.o2 .lt (.v 2111) (.o2 .sub (.v 7213) (.v 7212))) (oO (.o1 .not (.o2 .slt Vh Xs)) (oO (.o1 .not (eC 6 uF (.v 7211))) (oO (.o1 .not (eC 6 uF xW)) (oO (.uf 110 (eP adF (eP aae (eP (eC 4 uF (.v 7211)) fA)))) (oO (.uf 110 (eP (eC 0 uF xW) (eP (eC 1 uF xW) (eP (eC 4 uF xW) fA)))) (oO (.o2 .lt (.v 7211) (.o1 .ab uF)) (oO (.o2 .lt xW (.o1 .ab uF)) (oO (.o2 .le fA xW) (oO (.o2 .le xW iR) (oO (.o2 .le jL xW) (oO (.o2 .le Uo Ue) (oO (.o2 .le Uo iR) (oO (.o2 .aN xW (.uf 121 (eP (.v 7212) (eP (.v 7213) (eP (.o2 .add (.v 2111) yG) fA))))) [])))))))))))))
def Vl : List (aa × List Ob) :=
 [(fT (.o2 .slt Xs Vh) adr, acX),
  (fF (.o2 .slt Xs Vh) adr, acX),
  (fF (.o2 .lt (.v 7212) Xw) [], [])]
abbrev tn : E := .v 7215
abbrev tI : E := .v 7217
abbrev Pe : E := .uf 122 (eP (.v 7216) (eP tI (eP (.v 2112) fA)))
abbrev N3 : E := .o2 .add Pe tI
abbrev xl : E := .o2 .quo N3 (.il 2)
abbrev Xz : E := .uf 100 (eP (eC 0 tn xl) (eP (eC 1 tn xl) fA))
abbrev V0 : E := .uf 100 (eP (eC 0 tn tI) (eP (eC 1 tn tI) fA))
abbrev ada : aa := fT (.o2 .lt Pe tI) []
abbrev Xo : E := .o2 .add xl yG
abbrev aaw : List Ob := oO (.o2 .lt (.v 2112) (.o2 .sub tI (.v 7216))) (oO (.o2 .le Xo iR) (oO (.o2 .le jL Xo) (oO (.o1 .not (.o2 .slt V0 Xz)) (oO (.o1 .not (eC 6 tn xl)) (oO (.o1 .not (eC 6 tn tI)) (oO (.uf 110 (eP (eC 0 tn xl) (eP (eC 1 tn xl) (eP (eC 4 tn xl) fA)))) (oO (.uf 110 (eP (eC 0 tn tI) (eP (eC 1 tn tI) (eP (eC 4 tn tI) fA)))) (oO (.o2 .lt xl (.o1 .ab tn)) (oO (.o2 .le fA xl) (oO (.o2 .le xl iR) (oO (.o2 .le jL xl) (oO (.o2 .le fA N3) (oO (.o2 .le fA N3) (oO (.o2 .le jL N3) (oO (.o2 .aN Xo (.uf 122 (eP (.v 7216) (eP tI (eP (.o2 .add (.v 2112) yG) fA))))) [])))))))))))))))
def T4 : List (aa × List Ob) :=
 [(fT (.o2 .slt Xz V0) ada, aaw),
  (fF (.o2 .slt Xz V0) ada, aaw),
  (fF (.o2 .lt Pe tI) [], oO (.o2 .aN Pe tI) [])]
abbrev sg : E := .v 7220
abbrev Ek : E := .v 7222
abbrev QZ : E := .uf 122 (eP (.v 7221) (eP Ek (eP (.v 2113) fA)))
abbrev I8 : E := .o2 .add QZ Ek
abbrev uM : E := .o2 .quo I8 (.il 2)
abbrev X7 : E := .uf 100 (eP (eC 0 sg uM) (eP (eC 1 sg uM) fA))
abbrev yE : E := .o2 .sub (.v 7223) uM
abbrev UR : E := .uf 100 (eP (eC 0 sg yE) (eP (eC 1 sg yE) fA))
abbrev Za : aa := fT (.o2 .lt QZ Ek) []
abbrev Uc : E := .o2 .add uM yG
abbrev adP : List Ob := oO (.o2 .lt (.v 2113) (.o2 .sub Ek (.v 7221))) (oO (.o2 .le Uc iR) (oO (.o2 .le jL Uc) (oO (.o1 .not (.o2 .slt UR X7)) (oO (.o1 .not (eC 6 sg uM)) (oO (.o1 .not (eC 6 sg yE)) (oO (.uf 110 (eP (eC 0 sg uM) (eP (eC 1 sg uM) (eP (eC 4 sg uM) fA)))) (oO (.uf 110 (eP (eC 0 sg yE) (eP (eC 1 sg yE) (eP (eC 4 sg yE) fA)))) (oO (.o2 .lt uM (.o1 .ab sg)) (oO (.o2 .le fA uM) (oO (.o2 .lt yE (.o1 .ab sg)) (oO (.o2 .le fA yE) (oO (.o2 .le yE iR) (oO (.o2 .le jL yE) (oO (.o2 .le uM iR) (oO (.o2 .le jL uM) (oO (.o2 .le fA I8) (oO (.o2 .le I8 Ue) (oO (.o2 .le fA I8) (oO (.o2 .le I8 iR) (oO (.o2 .le jL I8) (oO (.o2 .aN Uc (.uf 122 (eP (.v 7221) (eP Ek (eP (.o2 .add (.v 2113) yG) fA))))) [])))))))))))))))))))))
def VT : List (aa × List Ob) :=
 [(fT (.o2 .slt X7 UR) Za, adP),
  (fF (.o2 .slt X7 UR) Za, adP),
  (fF (.o2 .lt QZ Ek) [], oO (.o2 .aN QZ Ek) [])]
abbrev nu : E := .v 7226
abbrev l4 : E := .v 7227
abbrev ads : E := .o2 .lt nu (.o2 .sub l4 yG)
abbrev Ol : E := .o2 .aN (.o2 .sub l4 nu) yG
abbrev oH : E := .v 7228
abbrev Gi : E := eP fA fA
abbrev aa1 : E := .o2 .aN (.o2 .sub oH l4) yG
abbrev DA : E := .o1 .ab (.v 7225)
abbrev acg : List Ob := oO (.o2 .le jL (.o2 .sub l4 nu)) []
abbrev TV : E := .o2 .add nu oH
abbrev fG : E := .o2 .quo TV (.il 2)
abbrev Cm : E := .o2 .add fG l4
abbrev uV : E := .o2 .sub Cm fG
abbrev ab4 : aa := fF aa1 (fF Ol [])
abbrev ZH : aa := fT (.o2 .lt fG l4) ab4
abbrev ad8 : aa := fF (.o2 .lt l4 uV) ZH
abbrev abg : aa := fT (.o2 .lt nu fG) ad8
abbrev aeS : aa := fT (.o2 .lt fG uV) abg
abbrev tB : E := .o2 .sub Cm oH
abbrev qT : E := .o2 .sub Cm yG
abbrev XM : List Ob := oO (.o2 .le TV Ue) (oO (.o2 .le TV iR) acg)
abbrev adB : List Ob := oO (.o2 .le Cm iR) XM
abbrev Xk : List Ob := oO (.o2 .aN tB (.uf 122 (eP tB (eP fG Gi)))) (oO (.o2 .le (.o2 .mul (.il 2) fG) (.o2 .add qT yG)) (oO (.o2 .lt (.o2 .sub qT tB) DA) (oO (.o2 .le tB fG) (oO (.o2 .le fA tB) (oO (.o2 .le qT iR) (oO (.o2 .le tB iR) adB))))))
abbrev Z4 : aa := fF (.o2 .lt nu fG) ad8
abbrev ad2 : aa := fT (.o2 .lt fG uV) Z4
abbrev aev : List Ob := oO (.o2 .aN tB (.uf 122 (eP tB (eP fG Gi)))) (oO (.o2 .le (.o2 .mul (.il 2) fG) (.o2 .add qT yG)) (oO (.o2 .lt (.o2 .sub qT tB) DA) (oO (.o2 .le tB fG) (oO (.o2 .le fA tB) (oO (.o2 .le qT iR) (oO (.o2 .le jL qT) (oO (.o2 .le tB iR) (oO (.o2 .le jL tB) (oO (.o2 .le Cm iR) (oO (.o2 .le jL Cm) (oO (.o2 .le jL fG) XM)))))))))))
abbrev Zs : List Ob := oO (.o2 .le jL uV) aev
abbrev rT : E := .o2 .sub Cm l4
abbrev acN : aa := fF (.o2 .lt fG l4) ab4
abbrev abe : aa := fT (.o2 .lt l4 fG) acN
abbrev adb : aa := fT (.o2 .lt fG rT) abe
abbrev Oz : List Ob := oO (.o2 .aN nu (.uf 122 (eP nu (eP l4 Gi)))) (oO (.o2 .le (.o2 .mul (.il 2) l4) (.o2 .add qT yG)) (oO (.o2 .lt (.o2 .sub qT nu) DA) (oO (.o2 .le nu l4) (oO (.o2 .le qT iR) (oO (.o2 .le jL qT) adB)))))
abbrev ZJ : List Ob := oO (.o2 .aN nu (.uf 122 (eP nu (eP l4 Gi)))) (oO (.o2 .le (.o2 .mul (.il 2) l4) (.o2 .add qT yG)) (oO (.o2 .lt (.o2 .sub qT nu) DA) (oO (.o2 .le nu l4) (oO (.o2 .le qT iR) (oO (.o2 .le jL qT) (oO (.o2 .le Cm iR) (oO (.o2 .le fG iR) XM)))))))
abbrev aas : aa := fF (.o2 .lt l4 fG) acN
abbrev acB : aa := fT (.o2 .lt fG rT) aas
def WK : List (aa × List Ob) :=
 [(fT ads (fT Ol []), oO (.bl false) []),
  (fF ads (fT Ol []), oO (.o2 .aN oH (.uf 121 (eP l4 (eP oH Gi)))) []),
  (fT aa1 (fF Ol []), oO (.o2 .aN nu (.uf 122 (eP nu (eP l4 Gi)))) (oO (.o2 .lt l4 DA) acg)),
  (fT (.o2 .lt l4 uV) ZH, oO (.bl false) []),
  (fT (.o2 .lt uV oH) aeS, oO (.o2 .lt (.o2 .sub oH fG) (.v 7229)) Xk),
  (fF (.o2 .lt uV oH) aeS, Xk),
  (fF (.o2 .lt fG uV) abg, oO (.o2 .le jL uV) Xk),
  (fT (.o2 .lt uV oH) ad2, oO (.o2 .le fA fG) (oO (.o2 .lt (.o2 .sub oH fG) (.v 7229)) Zs)),
  (fF (.o2 .lt uV oH) ad2, aev),
  (fF (.o2 .lt fG uV) Z4, Zs),
  (fT (.o2 .lt rT oH) adb, oO (.o2 .lt (.o2 .sub oH fG) (.v 7229)) (oO (.o2 .le fG DA) (oO (.o2 .lt (.o2 .sub fG nu) (.v 7229)) Oz))),
  (fF (.o2 .lt rT oH) adb, oO (.o2 .le fG DA) (oO (.o2 .lt (.o2 .sub fG nu) (.v 7229)) (oO (.o2 .le rT iR) ZJ))),
  (fF (.o2 .lt fG rT) abe, oO (.o2 .le fG DA) (oO (.o2 .lt (.o2 .sub fG nu) (.v 7229)) (oO (.o2 .le rT iR) (oO (.o2 .le jL rT) ZJ)))),
  (fT (.o2 .lt rT oH) acB, oO (.o2 .lt (.o2 .sub oH fG) (.v 7229)) Oz),
  (fF (.o2 .lt rT oH) acB, oO (.o2 .le rT iR) Oz),
  (fF (.o2 .lt fG rT) aas, oO (.o2 .le rT iR) (oO (.o2 .le jL rT) Oz))]
abbrev yf : E := .il 20
abbrev LS : E := .o2 .mul yf (.v 2114)
abbrev Lv : E := .o2 .add LS yf
abbrev Y8 : E := .o2 .mul yf (.o2 .add (.v 2114) yG)
def W2 : List (aa × List Ob) :=
 [(fT (.o2 .le Lv (.v 7231)) [], oO (.o2 .lt (.v 2114) (.o2 .quo (.v 7231) yf)) (oO (.o2 .le (.o2 .add LS (.il 40)) iR) (oO (.o2 .le Lv (.o1 .ab (.v 7230))) (oO (.o2 .le LS Lv) (oO (.o2 .aN Lv Y8) (oO (.o2 .aN (.o2 .add LS (.il 40)) (.o2 .add Y8 yf)) [])))))),
  (fF (.o2 .le Lv (.v 7231)) [], oO (.o2 .aN LS (.o2 .mul yf (.o2 .quo (.v 7231) yf))) [])]
abbrev D6 : E := .uf 123 (eP (.v 2116) fA)
abbrev Gk : E := .o2 .mul (.il 2) D6
abbrev W3 : E := .o2 .mul Gk (.o2 .quo (.v 7241) Gk)
abbrev Ns : E := .o2 .add W3 D6
abbrev abX : aa := fT (.o2 .lt D6 (.v 7241)) []
abbrev aa0 : List Ob := oO (.o2 .aN Gk (.o2 .add (.o2 .mul Gk fA) Gk)) (oO (.o2 .aN fA (.o2 .mul Gk fA)) (oO (.o2 .le yf D6) (oO (.o2 .le jL Gk) (oO (.o2 .aN (.o2 .mul D6 (.il 2)) (.uf 123 (eP (.o2 .add (.v 2116) yG) fA))) []))))
def V8 : List (aa × List Ob) :=
 [(fT (.o2 .lt Ns (.v 7241)) abX, oO (.o2 .lt (.v 2116) (.v 7241)) (oO (.o2 .le jL (.o2 .mul D6 (.il 2))) (oO (.o2 .le (.v 7241) (.o1 .ab (.v 7240))) (oO (.o2 .lt W3 Ns) (oO (.o2 .le fA W3) (oO (.o2 .le jL Ns) aa0)))))),
  (fF (.o2 .lt Ns (.v 7241)) abX, oO (.o2 .lt (.v 2116) (.v 7241)) (oO (.o2 .le jL (.o2 .mul D6 (.il 2))) (oO (.o2 .le Ns iR) aa0))),
  (fF (.o2 .lt D6 (.v 7241)) [], [])]
abbrev CZ : E := .o2 .mul (.il 2) (.v 7236)
abbrev K5 : E := .o2 .mul CZ (.v 2115)
abbrev Ie : E := .o2 .add K5 CZ
abbrev Xb : E := .o2 .add Ie CZ
abbrev Qx : E := .o2 .add K5 (.v 7236)
abbrev adq : E := .o2 .mul CZ (.o2 .add (.v 2115) yG)
def X0 : List (aa × List Ob) :=
 [(fT (.o2 .le Ie (.v 7235)) [], oO (.o2 .lt (.v 2115) (.o2 .quo (.v 7235) CZ)) (oO (.o2 .le Xb iR) (oO (.o2 .le jL Xb) (oO (.o2 .le Ie (.o1 .ab (.v 7234))) (oO (.o2 .lt Qx Ie) (oO (.o2 .lt K5 Qx) (oO (.o2 .le fA K5) (oO (.o2 .le Qx iR) (oO (.o2 .le jL Qx) (oO (.o2 .aN Ie adq) (oO (.o2 .aN Xb (.o2 .add adq CZ)) []))))))))))),
  (fF (.o2 .le Ie (.v 7235)) [], oO (.o2 .aN K5 (.o2 .mul CZ (.o2 .quo (.v 7235) CZ))) [])]
abbrev Zn : E := .o2 .mul yf (.o2 .quo (.o1 .ab (.v 7245)) yf)
def Bh : List (aa × List Ob) :=
 [([], oO (.o2 .aN yf (.uf 123 Gi)) (oO (.o2 .le Zn (.o1 .ab (.v 7245))) (oO (.o2 .le fA Zn) [])))]
abbrev uN : E := .v 2117
abbrev OL : E := .o2 .lt uN (.o1 .ab (.v 7250))
abbrev mR : E := eC 0 (.v 7250) uN
abbrev HL : E := eC 0 mR fA
abbrev HD : E := eC 1 mR fA
abbrev Hs : E := eC 4 mR fA
abbrev gS : E := .uf 102 (eP (.v 7250) fA)
def sR : List (aa × List Ob) :=
 [(fT OL [], oO (.uf 110 (eP HL (eP HD (eP Hs fA)))) (oO (.o2 .seq HL (eC 0 gS fA)) (oO (.o2 .seq HD (eC 1 gS fA)) (oO (.o2 .seq (eC 2 mR fA) (eC 2 gS fA)) (oO (.o2 .seq (eC 3 mR fA) (eC 3 gS fA)) (oT Hs (eC 4 gS fA) (oO (.o2 .seq (eC 5 mR fA) (eC 5 gS fA)) (oO (.o2 .beq (eC 6 mR fA) (eC 6 gS fA)) (oO (.o2 .beq (eC 7 mR fA) (eC 7 gS fA)) []))))))))),
  (fF OL [], oT fA gS [])]
def tK : List (aa × List Ob) :=
 [(fT OL [], oO (.uf 110 (eP HL (eP HD (eP Hs fA)))) (oO (.o2 .seq HL (eC 0 gS uN)) (oO (.o2 .seq HD (eC 1 gS uN)) (oO (.o2 .seq (eC 2 mR fA) (eC 2 gS uN)) (oO (.o2 .seq (eC 3 mR fA) (eC 3 gS uN)) (oT Hs (eC 4 gS uN) (oO (.o2 .seq (eC 5 mR fA) (eC 5 gS uN)) (oO (.o2 .beq (eC 6 mR fA) (eC 6 gS uN)) (oO (.o2 .beq (eC 7 mR fA) (eC 7 gS uN)) []))))))))),
  (fF OL [], oO (.o2 .le uN (.o1 .ab gS)) (oT (.o2 .cJ gS uN) gS []))]
abbrev Nr : E := .uf 102 (eP (.v 7251) fA)
def tJ : List (aa × List Ob) :=
 [([], oO (.o2 .le (.o1 .ab Nr) (.il 1000000)) (oO (.uf 111 (eP Nr fA)) (oO (.uf 112 (eP Nr fA)) [])))]
end Go.Proofs.YtdlppkhmmclipaaGreat.sxObj
namespace Go.Proofs.YtdlppkhmmclipaaGreat.sxObj
open Go.Sx Go.RowKit Go.Proofs.YtdlppkhmmclipaaGreat
set_option linter.unusedVariables false
set_option linter.unusedSimpArgs false
set_option maxRecDepth 100000
theorem lI {env : Env} {a b : E} : (E.o2 .quo a b).den env = .i ((a.den env).I.tdiv (b.den env).I) := id rfl
theorem LU {a : Int} (h : 0 <= a) {b : Int} : a.tdiv b = a / b := Int.tdiv_eq_ediv_of_nonneg h
theorem agE {lo hi : Int} : dn lo hi 0 = hi := id rfl
theorem afN {lo hi : Int} : up lo hi 0 = lo := id rfl
theorem afH {lo hi : Int} {n : Nat} (h : lo < dn lo hi n) : dn lo hi (n + 1) = (lo + dn lo hi n).tdiv 2 := by
 show (if lo < dn lo hi n then (lo + dn lo hi n).tdiv 2 else dn lo hi n) = _
 rw [if_pos h]
theorem PQ {lo hi : Int} {n : Nat} (h : up lo hi n < hi) : up lo hi (n + 1) = (up lo hi n + hi).tdiv 2 + 1 := by
 show (if up lo hi n < hi then (up lo hi n + hi).tdiv 2 + 1 else up lo hi n) = _
 rw [if_pos h]
theorem ic {l : Dv} {n : Nat} (h : n < l.T.length) : row l n = l.T[n] := by
 have := Kd h; rw [List.getElem?_eq_getElem h] at this; exact (Option.some.inj this).symm
theorem jC {l : Dv} (h : pd l.T) {a : Int} (ha : 0 <= a) (hb : a < (l.T.length : Nat)) : (cc (row l a.toNat) 6).B = false := h.2 _ (ef (by omega))
theorem pC {l : Dv} (h : dF l.T) {a : Int} (ha : 0 <= a) (hb : a < (l.T.length : Nat)) : Ra (cc (row l a.toNat) 0) (cc (row l a.toNat) 1) (cc (row l a.toNat) 4) := h _ (ef (by omega))
theorem GN {r : Row} (h : (cc r 6).B = false) : kl r = (jo (cc r 0).S (cc r 1).S).toList := by unfold kl; rw [mW h]
theorem pG {l : Dv} (h : pd l.T) {a b : Int} (ha : 0 <= a) (hab : a <= b) (hb : b < (l.T.length : Nat)) : dq (jo (cc (row l b.toNat) 0).S (cc (row l b.toNat) 1).S) (jo (cc (row l a.toNat) 0).S (cc (row l a.toNat) 1).S) = false := by
 have h1 := GN (jC h ha (by omega))
 have h2 := GN (jC h (by omega : 0 <= b) hb)
 rw [uj, <- h1, <- h2, decide_eq_false_iff_not]
 by_cases he : a = b
 ·rw [he]; exact List.lt_irrefl _
 ·have hp := List.pairwise_iff_getElem.1 h.1 a.toNat b.toNat (by omega) (by omega) (by omega)
  rw [<- ic, <- ic] at hp; exact List.lt_asymm hp
structure Srt (l : Dv) : Prop where
 r : pd l.T
 k : dF l.T
 n : (l.T.length : Int) <= 1000000
section
variable {o : Env}
theorem fB (hu : OU o) {l : E} {fs : aa} (h : (uZ l ++ fs).ay o) : Srt (l.den o) /\ fs.ay o := by
 simp only [uZ, vj, lY, aB, pk, List.foldr, List.cons_append, List.nil_append, SS, implies_true, hu.mV, hu.aa5] at h; exact ⟨⟨al.1 h.1, al.1 h.2.1, h.2.2.1⟩, h.2.2.2⟩
theorem OW : bn o Vy := by
 simp only [Vy, af, au, and_true]
 and_intros
 all_goals intro h
 all_goals simp only [SS, implies_true]
theorem Q4 (hu : OU o) {r : Nat} (hr : o.v 2110 = .i r) (hent : (LK.aU 0).ay o) (hle : (r : Int) <= ((E.o2 .sub (.v 7202) (.v 7201)).den o).I) : bn o VI := by
 obtain ⟨hs, hent⟩ := fB hu hent; simp only [cP, aB, SS, implies_true] at hent hle; have := hs.n; simp only [E.den] at hs this; simp only [VI, af, au, and_true]
 and_intros
 all_goals intro h
 all_goals simp only [SS, implies_true, hr, hu.mr, hu.jq] at h hle ⊢
 all_goals and_intros
 all_goals first | omega | exact pG hs.r (by omega) (by omega) (by omega) | exact jC hs.r (by omega) (by omega) | exact al.2 (pC hs.k (by omega) (by omega))
theorem Pa (hu : OU o) {r : Nat} (hr : o.v 2111 = .i r) (hent : (OS.aU 0).ay o) (hle : (r : Int) <= ((E.o2 .sub (.v 7213) (.v 7212)).den o).I) : bn o Vl := by
 obtain ⟨hs, hent⟩ := fB hu hent; simp only [cP, r9, aB, SS, implies_true] at hent hle; have := hs.n; simp only [E.den] at hs this; simp only [Vl, af, au, and_true]
 and_intros
 all_goals intro h
 all_goals simp only [SS, implies_true, lI, hr, hu.mr, hu.jq, hu.abL] at h hle ⊢
 obtain ⟨d1, d2, d3⟩ := Lc (lo := (o.v 7212).I) (hi := (o.v 7213).I) (by omega) (by omega) r
 all_goals obtain ⟨d1, d2, d3⟩ := Lc (lo := (o.v 7212).I) (hi := (o.v 7213).I) (by omega) (by omega) r
 all_goals have d3 := d3 (by omega)
 all_goals obtain ⟨d4, d5⟩ := half (a := (o.v 7212).I) (by omega) (by omega : _ < dn (o.v 7212).I (o.v 7213).I r)
 all_goals and_intros
 all_goals first | omega | exact pG hs.r (by omega) (by omega) (by omega) | exact jC hs.r (by omega) (by omega) | exact al.2 (pC hs.k (by omega) (by omega)) | exact (afH (by omega)).symm
theorem O6 (hu : OU o) {r : Nat} (hr : o.v 2112 = .i r) (hent : (Oo.aU 0).ay o) (hle : (r : Int) <= ((E.o2 .sub (.v 7217) (.v 7216)).den o).I) : bn o T4 := by
 obtain ⟨hs, hent⟩ := fB hu hent; simp only [cP, r9, aB, SS, implies_true] at hent hle; have := hs.n; simp only [E.den] at hs this; simp only [T4, af, au, and_true]
 and_intros
 all_goals intro h
 all_goals simp only [SS, implies_true, lI, hr, hu.mr, hu.jq, hu.XW] at h hle ⊢
 all_goals obtain ⟨d1, d2, d3⟩ := M0 (lo := (o.v 7216).I) (hi := (o.v 7217).I) (by omega) (by omega) r
 ·have d3 := d3 (by omega)
  obtain ⟨d4, d5⟩ := half (b := (o.v 7217).I) (by omega) (by omega : up (o.v 7216).I (o.v 7217).I r < _)
  and_intros
  all_goals first | omega | exact pG hs.r (by omega) (by omega) (by omega) | exact jC hs.r (by omega) (by omega) | exact al.2 (pC hs.k (by omega) (by omega)) | exact (PQ (by omega)).symm
 ·have d3 := d3 (by omega)
  obtain ⟨d4, d5⟩ := half (b := (o.v 7217).I) (by omega) (by omega : up (o.v 7216).I (o.v 7217).I r < _)
  and_intros
  all_goals first | omega | exact pG hs.r (by omega) (by omega) (by omega) | exact jC hs.r (by omega) (by omega) | exact al.2 (pC hs.k (by omega) (by omega)) | exact (PQ (by omega)).symm
 ·omega
theorem Qz (hu : OU o) {r : Nat} (hr : o.v 2113 = .i r) (hent : (Rz.aU 0).ay o) (hle : (r : Int) <= ((E.o2 .sub (.v 7222) (.v 7221)).den o).I) : bn o VT := by
 obtain ⟨hs, hent⟩ := fB hu hent; simp only [cP, r9, aB, SS, implies_true] at hent hle; have := hs.n; simp only [E.den] at hs this; simp only [VT, af, au, and_true]
 and_intros
 all_goals intro h
 all_goals simp only [SS, implies_true, lI, hr, hu.mr, hu.jq, hu.XW] at h hle ⊢
 all_goals obtain ⟨d1, d2, d3⟩ := M0 (lo := (o.v 7221).I) (hi := (o.v 7222).I) (by omega) (by omega) r
 ·have d3 := d3 (by omega)
  obtain ⟨d4, d5⟩ := half (b := (o.v 7222).I) (by omega) (by omega : up (o.v 7221).I (o.v 7222).I r < _)
  and_intros
  all_goals first | omega | exact pG hs.r (by omega) (by omega) (by omega) | exact jC hs.r (by omega) (by omega) | exact al.2 (pC hs.k (by omega) (by omega)) | exact (PQ (by omega)).symm
 ·have d3 := d3 (by omega)
  obtain ⟨d4, d5⟩ := half (b := (o.v 7222).I) (by omega) (by omega : up (o.v 7221).I (o.v 7222).I r < _)
  and_intros
  all_goals first | omega | exact pG hs.r (by omega) (by omega) (by omega) | exact jC hs.r (by omega) (by omega) | exact al.2 (pC hs.k (by omega) (by omega)) | exact (PQ (by omega)).symm
 ·omega
theorem QY (hu : OU o) (hent : ac9.aU.ay o) : bn o WK := by
 have hg := (bS.1 hent).1; obtain ⟨hs, hent⟩ := fB hu (bS.1 hent).2; simp only [DJ, cP, r9, aB, SS, implies_true] at hent hg; have := hs.n; simp only [E.den] at hs this; have hq : ((o.v 7226).I + (o.v 7228).I).tdiv 2 = ((o.v 7226).I + (o.v 7228).I) / 2 := LU (by omega)
 simp only [WK, af, au, and_true]
 and_intros
 all_goals intro h
 all_goals simp only [SS, implies_true, lI, hq, hu.abL, hu.XW, agE, afN] at h ⊢
 all_goals and_intros
 all_goals omega
theorem Ox (hu : OU o) {r : Nat} (hr : o.v 2114 = .i r) (hent : (Nq.aU 0).ay o) (hle : (r : Int) <= ((E.o2 .quo (.v 7231) (.il 20)).den o).I) : bn o W2 := by
 obtain ⟨hs, hent⟩ := fB hu hent; simp only [cP, r9, aB, lI, SS, implies_true] at hent hle; have := hs.n; simp only [E.den] at hs this; have hq : (o.v 7231).I.tdiv 20 = (o.v 7231).I / 20 := LU (by omega)
 simp only [W2, af, au, and_true]
 and_intros
 all_goals intro h
 all_goals simp only [SS, implies_true, lI, hq, hr] at h hle ⊢
 all_goals and_intros
 all_goals omega
theorem Rc (hu : OU o) {r : Nat} (hr : o.v 2115 = .i r) (hent : (Nz.aU 0).ay o) (hle : (r : Int) <= (Fm.den o).I) : bn o X0 := by
 have hent : (uZ (.v 7234) ++ [(.o2 .aN (.v 7235) (aB (.v 7234)), true), cP (.il 20) (.v 7236), r9 (.v 7236) (.v 7235)]).ay o := hent; obtain ⟨hs, hent⟩ := fB hu hent; simp only [cP, r9, aB, Fm, lI, SS, implies_true] at hent hle; have := hs.n; simp only [E.den] at hs this; have hq : (o.v 7235).I.tdiv (2 * (o.v 7236).I) = (o.v 7235).I / (2 * (o.v 7236).I) := LU (by omega)
 rw [hq] at hle; have hd : 0 < 2 * (o.v 7236).I := by omega
 have h1 : ∀ a : Int, a <= (o.v 7235).I / (2 * (o.v 7236).I) ↔ a * (2 * (o.v 7236).I) <= (o.v 7235).I := fun a => Int.le_ediv_iff_mul_le hd; have h2 := (h1 r).1 hle; have h3 := h1 (r + 1); have h0 : 0 <= (r : Int) * (2 * (o.v 7236).I) := Int.mul_nonneg (by omega) (by omega)
 have hm : 2 * (o.v 7236).I * (r : Int) = r * (2 * (o.v 7236).I) := Int.mul_comm ..; have hm2 : 2 * (o.v 7236).I * ((r : Int) + 1) = r * (2 * (o.v 7236).I) + 2 * (o.v 7236).I := by rw [Int.mul_comm, Int.add_mul, Int.one_mul]
 rw [Int.add_mul, Int.one_mul] at h3; simp only [X0, af, au, and_true]
 and_intros
 all_goals intro h
 all_goals simp only [SS, implies_true, lI, hq, hr, hm, hm2] at h hle ⊢
 all_goals generalize hx : (r : Int) * (2 * (o.v 7236).I) = x at *
 ·generalize (o.v 7235).I / (2 * (o.v 7236).I) = y at *
  and_intros
  all_goals omega
 ·have : (o.v 7235).I / (2 * (o.v 7236).I) = r := by
    generalize (o.v 7235).I / (2 * (o.v 7236).I) = y at *; omega
  rw [this, hm]
theorem Ow (hu : OU o) {r : Nat} (hr : o.v 2116 = .i r) (hent : (Kw.aU 0).ay o) (hle : (r : Int) <= ((E.v 7241).den o).I) : bn o V8 := by
 obtain ⟨hs, hent⟩ := fB hu hent; simp only [cP, r9, aB, lI, SS, implies_true] at hent hle; have := hs.n; simp only [E.den] at hs this
 have hb : (r : Int) < 2 ^ r := by
  have := Nat.lt_two_pow_self (n := r)
  exact_mod_cast this
 have hb2 : (2 : Int) ^ (r + 1) = 2 ^ r * 2 := Int.pow_succ ..; simp only [V8, af, au, and_true]
 and_intros
 all_goals intro h
 all_goals simp only [SS, implies_true, lI, hr, hu.ab3, hb2] at h hle ⊢
 all_goals generalize (2 : Int) ^ r = b at *
 all_goals have hd : 0 < 2 * (20 * b) := by omega
 all_goals have hq : (o.v 7241).I.tdiv (2 * (20 * b)) = (o.v 7241).I / (2 * (20 * b)) := LU (by omega)
 all_goals simp only [hq, Int.mul_zero] at h ⊢
 all_goals have hx := Int.mul_ediv_self_le (x := (o.v 7241).I) (by omega : 2 * (20 * b) ≠ 0)
 all_goals have hy : 0 <= 2 * (20 * b) * ((o.v 7241).I / (2 * (20 * b))) := Int.mul_nonneg (by omega) (Int.ediv_nonneg (by omega) (by omega))
 all_goals generalize 2 * (20 * b) * ((o.v 7241).I / (2 * (20 * b))) = x at *
 all_goals and_intros
 all_goals first | omega | trivial
theorem En (hu : OU o) (hent : pJ.aU.ay o) : bn o Bh := by
 have hent : (uZ (.v 7245) ++ []).ay o := hent; obtain ⟨hs, _⟩ := fB hu hent; have := hs.n; simp only [E.den] at hs this; have hq : ((o.v 7245).T.length : Int).tdiv 20 = ((o.v 7245).T.length : Int) / 20 := LU (by omega)
 simp only [Bh, af, au, and_true]; intro h; simp only [SS, implies_true, lI, hq, hu.ab3] at h ⊢
 and_intros
 ·rfl
 all_goals omega
theorem z7 (hu : OU o) (hr : o.v 2117 = .i (0 : Nat)) (hent : (jy.aU 0).ay o) : bn o sR := by
 simp only [jy, Bf, okA, lY, aB, pk, List.foldr, SS, implies_true, hu.IG] at hent; have hok := al.1 hent.1; simp only [sR, af, au, and_true]
 and_intros
 all_goals intro h
 all_goals simp only [SS, implies_true, hr, hu.jq, hu.I9] at h ⊢
 ·have hl : 0 < (o.v 7250).T.length := by omega
  have hk := cF (l := .t ((o.v 7250).T.map nG)) hok.2 (n := 0) (by rw [Tx, List.length_map]; exact hl)
  rw [iB hl] at hk ⊢; exact ⟨al.2 hk, rfl, rfl, rfl, rfl, rfl, rfl, rfl, rfl⟩
 ·have := tu (l := (o.v 7250).T) (by simpa using h)
  rw [this]; rfl
theorem A7 (hu : OU o) {r : Nat} (hr : o.v 2117 = .i r) (hent : (jy.aU 0).ay o) (hle : (r : Int) <= ((aB (.v 7250)).den o).I) : bn o tK := by
 simp only [jy, Bf, okA, lY, aB, pk, List.foldr, SS, implies_true, hu.IG] at hent hle; have hok := al.1 hent.1; simp only [tK, af, au, and_true]
 and_intros
 all_goals intro h
 all_goals simp only [SS, implies_true, hr, hu.jq, hu.I9] at h ⊢
 ·have hl : r < (o.v 7250).T.length := by omega
  have hk := cF (l := .t ((o.v 7250).T.map nG)) hok.2 (n := r) (by rw [Tx, List.length_map]; exact hl)
  rw [iB hl] at hk ⊢; exact ⟨al.2 hk, rfl, rfl, rfl, rfl, rfl, rfl, rfl, rfl⟩
 ·exact ⟨by rw [List.length_map]; omega, map_take h⟩
theorem z6 (hu : OU o) (hent : mQ.aU.ay o) : bn o tJ := by
 simp only [mQ, okA, lY, aB, pk, List.foldr, SS, implies_true, hu.IG] at hent; have hok := al.1 hent.1; simp only [tJ, af, au, and_true]; intro h; simp only [SS, implies_true, hu.I9, hu.mV, hu.aa5, List.length_map] at h ⊢; exact ⟨hent.2, al.2 hok.2, al.2 hok.1⟩
end
def gF : aJ := .cons .str .nil
def Np : aJ := .cons (.int .i64) .nil
def J1 : aJ := .cons (.int .i64) (.cons .bool (.cons (.sl dm) (.cons (.sl gF) (.cons .str (.cons (.sl Np) .nil)))))
def qV : Nat := 9
def ia : Nat := 25
def yj (l : E) : E × Bool := (.o2 .le (aB l) (.il 2147483647), true)
def Vi (l a b : E) : E := .uf 130 (pk [l, a, b])
def adQ (l a b : E) : E := .uf 131 (pk [l, a, b])
def GK (l a b : Nat) : aa := [yj (.v l), (adQ (.v l) (.v a) (.v b), true)]
def ixO : aD := .cells By [.str (.v 7301), .str (.v 7302)]
def YQ : ak where
 f := BO; key := 2; N := 19; r := 2120; base := 130000
 js := [5] ++ ke 9 19
 hd := fun _ => ⟨[(0, .bQ gI (.v 7300)), (3, .ptr 1 (.c 0)), (4, .top), (7, iS (aB (.v 7300))), (8, iS (.v 2120))], [(1, ixO)], 9,
  cP (.il 0) (.v 2120) :: cP (.v 2120) (Vi (.v 7300) (.v 7301) (.v 7302)) :: GK 7300 7301 7302⟩
 aU := fun _ => GK 7300 7301 7302
 app := fun _ => true
 mS := fun m => Nat.beq m 0
 dD := fun _ => .ret 0
 ll := fun m => Nat.beq m 0
 mf := fun _ => []
 hx := fun n => ⟨[(0, .top), (3, .ptr 1 (.c 0)), (4, match n with | 1 => iS (Vi (.v 7300) (.v 7301) (.v 7302)) | _ => .top), (7, .top), (8, .top)], [(1, ixO)], 9, []⟩
 sQ := fun ex _ => match ex with | .ret => .ret 1 | _ => .ret 0
 nU := fun n => match n with | 1 => .ret | _ => .exit 0
 bp := [(.bl false, 0), (.bl true, 1)]
 fixed := [1]
 lt := .o2 .lt (.v 2120) (Vi (.v 7300) (.v 7301) (.v 7302))
 X := dg.none
 fuel := 300; np := 80
 params := [7300, 7301, 7302]
def coF : cA where
 f := pq
 args := [.bQ gI (.v 7303), .agg [.str (.v 7304), .str (.v 7305)]]
 params := [7303, 7304, 7305]
 aU := GK 7303 7304 7305
 app := fun _ => true
 bp := [(.bl true, 0)]
 kind := fun _ => some 0
 out := fun _ => .bool (.bl true)
 X := (⟨[], [(BO, 2, YQ.cW)]⟩ : gX).x
 fuel := 300; np := 80
def NV (f key N res : Nat) (ks : aJ) (t islot : Nat) (J : List Nat) (ex p r bad st : Nat) (X : dg) (more : List (Nat × SV) := []) (args : List E := []) (ps : List Nat := []) (bj : aR := []) (aU : aa := [yj (.v p)]) : ak where
 f := f; key := key; N := N; r := r; base := 131000 + 1000 * (r - 2120)
 js := J
 hd := fun _ => ⟨more ++ [(res, .bool (.bl false)), (t, .bQ ks (.v p)), (t + 1, iS (aB (.v p))), (islot, iS (.v r))], bj, 9,
  cP (.il 0) (.v r) :: cP (.v r) (.uf st (pk (.v p :: args))) :: aU⟩
 aU := fun _ => aU
 app := fun _ => true
 mS := fun m => Nat.beq m 0
 dD := fun _ => .ret 0
 ll := fun m => Nat.beq m 0
 mf := fun _ => []
 hx := fun n => ⟨more ++ [(res, .bool (.bl false)), (t, .bQ ks (.v p)), (t + 1, iS (aB (.v p))), (islot, .top)], bj, 9, []⟩
 sQ := fun ex _ => match ex with | .ret => .ret 1 | _ => .ret 0
 nU := fun n => match n with | 1 => .ret | _ => .exit ex
 bp := [(.uf bad (pk (.v p :: args)), 1), (.bl true, 0)]
 fixed := bj.map (·.1)
 lt := .o2 .lt (.v r) (.uf st (pk (.v p :: args)))
 X := X
 fuel := 300; np := 80
 params := p :: ps
def rK (f : Nat) (args : List SV) (ps : List Nat) (aU : aa) (code : Nat) (xs : List E) (X : dg) : cA where
 f := f
 args := args
 params := ps
 aU := aU
 app := fun _ => true
 bp := [(.bl true, 0)]
 kind := fun _ => some 0
 out := fun _ => .bool (.uf code (pk xs))
 X := X
 fuel := 300; np := 80
def goT (f key N res : Nat) (ks : aJ) (t islot : Nat) (J : List Nat) (ex p r : Nat) (X : dg) (aU : aa) (more : List (Nat × SV) := []) (ps : List Nat := []) (bj : aR := []) : ak where
 f := f; key := key; N := N; r := r; base := 131000 + 1000 * (r - 2120)
 js := J
 hd := fun _ => ⟨more ++ [(res, .bool (.bl false)), (t, .bQ ks (.v p)), (t + 1, iS (aB (.v p))), (islot, iS (.v r))], bj, 9,
  cP (.il 0) (.v r) :: cP (.v r) (aB (.v p)) :: yj (.v p) :: aU⟩
 aU := fun _ => yj (.v p) :: aU
 app := fun _ => true
 mS := fun m => Nat.beq m 0
 dD := fun _ => .ret 0
 ll := fun m => Nat.beq m 0
 mf := fun _ => []
 hx := fun n => ⟨more ++ [(res, .bool (.bl false)), (t, .bQ ks (.v p)), (t + 1, iS (aB (.v p))), (islot, .top)], bj, 9, []⟩
 sQ := fun ex _ => match ex with | .ret => .ret 1 | _ => .ret 0
 nU := fun n => match n with | 1 => .ret | _ => .exit ex
 bp := [(.bl false, 1), (.bl true, 0)]
 fixed := bj.map (·.1)
 lt := .o2 .lt (.v r) (aB (.v p))
 X := X
 fuel := 300; np := 80
 params := p :: ps
def slY : ak := goT eO 4 23 4 gI 12 14 ([6] ++ ke 15 23) 0 7307 2121 (⟨[(pq, coF.aS)], []⟩ : gX).x [] [(1, .bQ gI (.v 7307))]
def slF : cA where
 f := eO
 args := [.bQ gI (.v 7308), .bQ gI (.v 7308)]
 params := [7308]
 aU := [yj (.v 7308)]
 app := fun _ => true
 bp := [(.bl true, 0)]
 kind := fun _ => some 0
 out := fun _ => .bool (.bl true)
 X := (⟨[], [(eO, 4, slY.cW)]⟩ : gX).x
 fuel := 300; np := 80
def Zw : cA where
 f := rI
 args := [.agg (qO (vE 7310)), .agg (qO (vE 7310))]
 params := ke 7310 7318
 aU := [yj (.v 7314)]
 app := fun _ => true
 bp := [(.bl true, 0)]
 kind := fun _ => some 0
 out := fun _ => .bool (.bl true)
 X := (⟨[(eO, slF.aS)], []⟩ : gX).x
 fuel := 300; np := 80
def V1 (l : E) : E := .uf 132 (pk [l])
def HP (j : Nat) : E := .v (7320 + j)
def st6 : List SV := [iS (HP 0), .bool (HP 1), .bQ dm (HP 2), .bQ gF (HP 3), .str (HP 4), .bQ Np (HP 5)]
def Nn : aa := [vj (HP 2), .o2 .le (aB (HP 2)) (.il 2147483647), .o2 .le (aB (HP 3)) (.il 2147483647)].map fun e => (e, true)
def ssY (key i ex r : Nat) (J : List Nat) (len : E) (X : dg) : ak where
 f := ia; key := key; N := 89; r := r; base := 131000 + 1000 * (r - 2120)
 js := J
 hd := fun _ => ⟨[(2, .ptr 1 (.c 0)), (3, .ptr 2 (.c 0)), (4, .bool (.bl false)), (i, iS (.v r))], [(2, .cells kX st6), (1, .cells kX st6)], 9,
  cP (.il 0) (.v r) :: cP (.v r) len :: Nn⟩
 aU := fun _ => Nn
 app := fun _ => true
 mS := fun m => Nat.beq m 0
 dD := fun _ => .ret 0
 ll := fun m => Nat.beq m 0
 mf := fun _ => []
 hx := fun n => ⟨[(2, .ptr 1 (.c 0)), (3, .ptr 2 (.c 0)), (4, .bool (.bl false)), (i, .top)], [(2, .cells kX st6), (1, .cells kX st6)], 9, []⟩
 sQ := fun ex _ => match ex with | .ret => .ret 1 | _ => .ret 0
 nU := fun n => match n with | 1 => .ret | _ => .exit ex
 bp := [(.bl false, 1), (.bl true, 0)]
 fixed := [1, 2]
 lt := .o2 .lt (.v r) len
 X := X
 fuel := 300; np := 80
 params := ke 7320 7326
def Ju : ak := ssY 4 5 0 2122 (ke 42 66) (aB (HP 2)) (⟨[(rI, Zw.aS)], []⟩ : gX).x
def PW : ak := ssY 9 6 2 2123 (ke 66 89) (aB (HP 3)) dg.none
def ssA : List SV := [iS (.v 7330), .bool (.v 7331), .bQ dm (.v 7332), .bQ gF (.v 7333), .str (.v 7334), .bQ Np (.v 7335)]
def ssF : cA where
 f := ia
 args := [.agg ssA, .agg ssA]
 params := ke 7330 7336
 aU := [vj (.v 7332), .o2 .le (aB (.v 7332)) (.il 2147483647), .o2 .le (aB (.v 7333)) (.il 2147483647)].map fun e => (e, true)
 app := fun _ => true
 bp := [(.bl true, 0)]
 kind := fun _ => some 0
 out := fun _ => .bool (.bl true)
 X := (⟨[], [(ia, 4, Ju.cW), (ia, 9, PW.cW)]⟩ : gX).x
 fuel := 400; np := 80
def YU : ak := goT qV 4 27 4 J1 11 13 ([5] ++ ke 14 27) 0 7340 2124 (⟨[(ia, ssF.aS)], []⟩ : gX).x [(V1 (.v 7340), true)] [(0, .bQ J1 (.v 7340)), (1, .bQ J1 (.v 7340))]
def saF : cA where
 f := qV
 args := [.bQ J1 (.v 7341), .bQ J1 (.v 7341)]
 params := [7341]
 aU := [yj (.v 7341), (V1 (.v 7341), true)]
 app := fun _ => true
 bp := [(.bl true, 0)]
 kind := fun _ => some 0
 out := fun _ => .bool (.bl true)
 X := (⟨[], [(qV, 4, YU.cW)]⟩ : gX).x
 fuel := 300; np := 80
def zM : E := .il 2147483647
def Jp : Nat := 21
def Dx : Nat := 42
def uh : Nat := 44
def jF : Nat := 72
def l5 : Nat := 22
def lH : Nat := 24
def z6Y : ak := NV Dx 4 18 2 gI 8 10 ([4] ++ ke 11 18) 0 7400 2130 133 134 dg.none
def z6F : cA := rK Dx [.bQ gI (.v 7401)] [7401] [] 135 [.v 7401] (⟨[], [(Dx, 4, z6Y.cW)]⟩ : gX).x
def ac1 (e : Nat -> E) : E := .uf 136 (pk [e 0, e 1, e 2, e 3, e 4, e 5])
def XV : cA := rK Jp [.agg (qO (vE 7410))] (ke 7410 7418) [] 136 [.v 7410, .v 7411, .v 7412, .v 7413, .v 7414, .v 7415] (⟨[(Dx, z6F.aS)], []⟩ : gX).x
def RE : ak := NV uh 4 18 2 dm 8 10 ([4] ++ ke 11 18) 0 7420 2131 137 138 (⟨[(Jp, XV.aS)], []⟩ : gX).x
def Mb : cA := rK uh [.bQ dm (.v 7421)] [7421] [] 139 [.v 7421] (⟨[], [(uh, 4, RE.cW)]⟩ : gX).x
def N5 : ak := NV jF 7 42 2 gI 26 28 ([6] ++ ke 29 38) 2 7430 2133 143 144 dg.none [(4, .ptr 1 (.c 0))] [.v 7431] [7431, 7432] [(1, .cells By [.str (.v 7431), .str (.v 7432)])]
def Iz : ak := NV jF 2 42 2 gI 7 9 ([3, 4, 6] ++ ke 10 39) 0 7433 2134 145 146 (⟨[], [(jF, 7, N5.cW)]⟩ : gX).x [(0, .bQ gI (.v 7433))]
def Li : cA := rK jF [.bQ gI (.v 7434)] [7434] [yj (.v 7434)] 147 [.v 7434] (⟨[], [(jF, 2, Iz.cW)]⟩ : gX).x
def szE (e : E) : E := .o1 .size e
def shY : ak where
 f := l5; key := 5; N := 34; r := 2135; base := 146000
 js := [5] ++ ke 19 26
 hd := fun _ => ⟨[(2, .bool (.bl false)), (4, .str (.v 7436)), (17, iS (szE (.v 7436))), (18, iS (.v 2135))], [], 9,
  cP (.il 0) (.v 2135) :: cP (.v 2135) (.uf 149 (pk [.v 7436])) :: [cP (szE (.v 7436)) zM]⟩
 aU := fun _ => [cP (szE (.v 7436)) zM]
 app := fun _ => true
 mS := fun m => Nat.beq m 0
 dD := fun _ => .ret 0
 ll := fun m => Nat.beq m 0
 mf := fun _ => []
 hx := fun n => ⟨[(2, .bool (.bl false)), (4, .str (.v 7436)), (17, .top), (18, .top)], [], 9, []⟩
 sQ := fun ex _ => match ex with | .ret => .ret 1 | _ => .ret 0
 nU := fun n => match n with | 1 => .ret | _ => .exit 2
 bp := [(.uf 148 (pk [.v 7436]), 1), (.bl true, 0)]
 fixed := []
 lt := .o2 .lt (.v 2135) (.uf 149 (pk [.v 7436]))
 X := dg.none
 fuel := 300; np := 80
 params := [7436]
def Pd : cA := rK l5 [.agg (qO (vE 7440))] (ke 7440 7448) [(ac1 (vE 7440), true)] 150 (pk8 (vE 7440)) (⟨[(jF, Li.aS)], [(l5, 5, shY.cW)]⟩ : gX).x
def Jb : ak := NV lH 2 18 2 dm 5 7 ([4] ++ ke 8 15) 0 7450 2136 151 152 (⟨[(l5, Pd.aS)], []⟩ : gX).x [] [] [] [] [(.uf 139 (pk [.v 7450]), true)]
def L6 : cA := rK lH [.bQ dm (.v 7451)] [7451] [(.uf 139 (pk [.v 7451]), true)] 153 [.v 7451] (⟨[], [(lH, 2, Jb.cW)]⟩ : gX).x
end Go.Proofs.YtdlppkhmmclipaaGreat.sxObj
namespace Go.Proofs.YtdlppkhmmclipaaGreat.sxObj
open Go.Sx
set_option linter.unusedVariables false
set_option maxRecDepth 100000
abbrev od0 : E := .o2 .seq (.v 7302) (eC 1 (.v 7300) (.v 2120))
abbrev od1 : E := .o2 .seq (.v 7301) (eC 0 (.v 7300) (.v 2120))
abbrev od2 : E := .o2 .lt (.v 2120) (.o1 .ab (.v 7300))
abbrev od3 : aa := fT od1 (fT od2 [])
abbrev nM : E := .il 0
abbrev od5 : E := .uf 130 (eP (.v 7300) (eP (.v 7301) (eP (.v 7302) nM)))
abbrev od6 : List Ob := oO (.o2 .lt (.v 2120) od5) []
abbrev XF : E := .bl false
def ixL : List (aa × List Ob) :=
 [(fT od0 od3, oO (.o2 .aN (.v 2120) od5) []),
  (fF od0 od3, od6),
  (fF od1 (fT od2 []), od6),
  (fF od2 [], oO XF [])]
def coL : List (aa × List Ob) :=
 [([], oO (.o2 .beq (.o2 .le nM (.uf 130 (eP (.v 7303) (eP (.v 7304) (eP (.v 7305) nM))))) (.bl true)) [])]
abbrev od8 : E := .o2 .lt (.v 2121) (.o1 .ab (.v 7307))
def UT : List (aa × List Ob) :=
 [(fT od8 [], oO (.uf 131 (eP (.v 7307) (eP (eC 0 (.v 7307) (.v 2121)) (eP (eC 1 (.v 7307) (.v 2121)) nM)))) []),
  (fF od8 [], [])]
def slL : List (aa × List Ob) :=
 [([], [])]
def soL : List (aa × List Ob) :=
 [([], [])]
abbrev od9 : E := .o2 .lt (.v 2122) (.o1 .ab (.v 7322))
abbrev Ou : aa := fT (.o2 .aN (.v 7320) nM) []
abbrev pZ : E := .il 2147483647
abbrev acZ : aa := fF (.o2 .aN (.v 7320) nM) []
def Wb : List (aa × List Ob) :=
 [(fT od9 Ou, oO (.o2 .le (.o1 .ab (eC 4 (.v 7322) (.v 2122))) pZ) []),
  (fF od9 Ou, []),
  (acZ, [])]
abbrev aeO : E := .o2 .lt (.v 2123) (.o1 .ab (.v 7323))
def Ur : List (aa × List Ob) :=
 [(fT aeO Ou, []),
  (fF aeO Ou, []),
  (acZ, [])]
def ssL : List (aa × List Ob) :=
 [(fT (.o2 .aN (.v 7330) nM) [], []),
  (fF (.o2 .aN (.v 7330) nM) [], [])]
abbrev abQ : E := .o2 .lt (.v 2124) (.o1 .ab (.v 7340))
abbrev Zm : E := eC 2 (.v 7340) (.v 2124)
def Ul : List (aa × List Ob) :=
 [(fT abQ [], oO (.o2 .le (.o1 .ab (eC 3 (.v 7340) (.v 2124))) pZ) (oO (.o2 .le (.o1 .ab Zm) pZ) (oO (.uf 111 (eP Zm nM)) []))),
  (fF abQ [], [])]
def saL : List (aa × List Ob) :=
 [([], [])]
abbrev aaf : E := .o2 .lt pZ (.o1 .size (eC 0 (.v 7400) (.v 2130)))
abbrev XG : E := .o2 .lt (.v 2130) (.o1 .ab (.v 7400))
abbrev YM : E := .uf 133 (eP (.v 7400) nM)
abbrev ZC : E := .o2 .lt pZ (.o1 .size (eC 1 (.v 7400) (.v 2130)))
abbrev ab2 : aa := fF aaf (fT XG [])
def Ug : List (aa × List Ob) :=
 [(fT aaf (fT XG []), oO YM []),
  (fT ZC ab2, oO YM []),
  (fF ZC ab2, oO (.o2 .lt (.v 2130) (.uf 134 (eP (.v 7400) nM))) []),
  (fF XG [], oO (.o1 .not YM) [])]
abbrev Yt : E := .o2 .lt pZ (.o1 .ab (.v 7401))
abbrev acC : E := .uf 135 (eP (.v 7401) nM)
abbrev aeA : List Ob := oO (.o2 .beq XF acC) []
abbrev ac0 : E := .uf 133 (eP (.v 7401) nM)
def z6L : List (aa × List Ob) :=
 [(fT Yt [], aeA),
  (fT ac0 (fF Yt []), aeA),
  (fF ac0 (fF Yt []), oO (.o2 .beq (.bl true) acC) [])]
abbrev UO : E := .o2 .lt pZ (.o1 .size (.v 7410))
abbrev aex : E := .uf 136 (eP (.v 7410) (eP (.v 7411) (eP (.v 7412) (eP (.v 7413) (eP (.v 7414) (eP (.v 7415) nM))))))
abbrev Ix : List Ob := oO (.o2 .beq XF aex) []
abbrev abJ : E := .o2 .lt pZ (.o1 .size (.v 7411))
abbrev Vk : E := .o2 .lt pZ (.o1 .size (.v 7412))
abbrev Vb : aa := fF abJ (fF UO [])
abbrev abV : E := .o2 .lt pZ (.o1 .size (.v 7413))
abbrev aaO : E := .o2 .lt pZ (.o1 .size (.v 7415))
abbrev T7 : E := .uf 135 (eP (.v 7414) nM)
abbrev Uh : aa := fF abV (fF Vk Vb)
def z5L : List (aa × List Ob) :=
 [(fT UO [], Ix),
  (fT abJ (fF UO []), Ix),
  (fT Vk Vb, Ix),
  (fT abV (fF Vk Vb), Ix),
  (fT aaO (fT T7 Uh), Ix),
  (fF aaO (fT T7 Uh), oO (.o2 .beq (.bl true) aex) []),
  (fF T7 Uh, Ix)]
abbrev Aj : E := .v 7420
abbrev DF : E := .v 2131
abbrev abc : E := .uf 136 (eP (eC 0 Aj DF) (eP (eC 1 Aj DF) (eP (eC 2 Aj DF) (eP (eC 3 Aj DF) (eP (eC 4 Aj DF) (eP (eC 5 Aj DF) nM))))))
abbrev Yu : E := .o2 .lt DF (.o1 .ab Aj)
abbrev aeF : E := .uf 137 (eP Aj nM)
def K7 : List (aa × List Ob) :=
 [(fT abc (fT Yu []), oO (.o2 .lt DF (.uf 138 (eP Aj nM))) []),
  (fF abc (fT Yu []), oO aeF []),
  (fF Yu [], oO (.o1 .not aeF) [])]
abbrev Xt : E := .o2 .lt pZ (.o1 .ab (.v 7421))
abbrev ZL : E := .uf 139 (eP (.v 7421) nM)
abbrev abv : List Ob := oO (.o2 .beq XF ZL) []
abbrev ady : E := .uf 137 (eP (.v 7421) nM)
def V6 : List (aa × List Ob) :=
 [(fT Xt [], abv),
  (fT ady (fF Xt []), abv),
  (fF ady (fF Xt []), oO (.o2 .beq (.bl true) ZL) [])]
abbrev aaB : E := .o2 .seq (eC 0 (.v 7430) (.v 2133)) (.v 7431)
abbrev Ye : E := .o2 .lt (.v 2133) (.o1 .ab (.v 7430))
abbrev VW : E := eP (.v 7430) (eP (.v 7431) nM)
def Uf : List (aa × List Ob) :=
 [(fT aaB (fT Ye []), oO (.uf 143 VW) []),
  (fF aaB (fT Ye []), oO (.o2 .lt (.v 2133) (.uf 144 VW)) []),
  (fF Ye [], oO (.o1 .not (.uf 143 VW)) [])]
abbrev Fb : E := .v 2134
abbrev Zj : E := eC 0 (.v 7433) Fb
abbrev aa2 : E := .uf 143 (eP (.o2 .cJ (.v 7433) Fb) (eP Zj nM))
abbrev Us : E := .o2 .le (.o1 .size (eC 1 (.v 7433) Fb)) (.il 40)
abbrev ZD : E := .o2 .le (.o1 .size Zj) (.il 40)
abbrev VE : E := .o2 .lt Fb (.o1 .ab (.v 7433))
abbrev X2 : aa := fT ZD (fT VE [])
abbrev Py : E := .uf 145 (eP (.v 7433) nM)
abbrev adE : List Ob := oO (.o2 .le (.o1 .ab (.o2 .cJ (.v 7433) Fb)) pZ) (oO (.o2 .le Fb (.o1 .ab (.v 7433))) [])
def NG : List (aa × List Ob) :=
 [(fT aa2 (fT Us X2), oO Py adE),
  (fF aa2 (fT Us X2), oO (.o2 .lt Fb (.uf 146 (eP (.v 7433) nM))) adE),
  (fF Us X2, oO Py []),
  (fF ZD (fT VE []), oO Py []),
  (fF VE [], oO (.o1 .not Py) [])]
abbrev adm : E := .uf 145 (eP (.v 7434) nM)
abbrev acr : E := .uf 147 (eP (.v 7434) nM)
def Vd : List (aa × List Ob) :=
 [(fT adm [], oO (.o2 .beq XF acr) []),
  (fF adm [], oO (.o2 .beq (.o2 .le (.o1 .ab (.v 7434)) (.il 6)) acr) [])]
abbrev aar : E := .o2 .aN (.o2 .byte (.v 7436) (.v 2135)) (.il 47)
abbrev XZ : E := .o2 .lt (.v 2135) (.o1 .size (.v 7436))
abbrev Y6 : E := .uf 148 (eP (.v 7436) nM)
def shL : List (aa × List Ob) :=
 [(fT aar (fT XZ []), oO Y6 []),
  (fF aar (fT XZ []), oO (.o2 .lt (.v 2135) (.uf 149 (eP (.v 7436) nM))) []),
  (fF XZ [], oO (.o1 .not Y6) [])]
abbrev YF : E := .uf 148 (eP (.v 7440) nM)
abbrev abn : E := .uf 150 (eP (.v 7440) (eP (.v 7441) (eP (.v 7442) (eP (.v 7443) (eP (.v 7444) (eP (.v 7445) (eP (.v 7446) (eP (.v 7447) nM))))))))
abbrev Cc : List Ob := oO (.o2 .beq XF abn) []
abbrev ae1 : List Ob := oO (.o2 .le (.o1 .size (.v 7440)) pZ) Cc
abbrev aad : E := .uf 148 (eP (.v 7441) nM)
abbrev ad7 : List Ob := oO (.o2 .le (.o1 .size (.v 7441)) pZ) ae1
abbrev W0 : E := .uf 147 (eP (.v 7444) nM)
abbrev adt : E := .o2 .le (.o1 .ab (.v 7444)) (.il 4)
abbrev YA : E := .o2 .le (.o1 .size (.v 7445)) (.il 40)
abbrev acG : E := .o2 .le (.o1 .size (.v 7443)) (.il 20)
abbrev VZ : E := .o2 .le (.o1 .size (.v 7442)) (.il 20)
abbrev acw : E := .o2 .le (.o1 .size (.v 7441)) (.il 20)
abbrev XI : E := .o2 .le (.o1 .size (.v 7440)) (.il 20)
abbrev Wh : aa := fF aad (fF YF [])
abbrev Ww : aa := fT acw (fT XI Wh)
abbrev Wt : aa := fT acG (fT VZ Ww)
abbrev U9 : aa := fT adt (fT YA Wt)
def smL : List (aa × List Ob) :=
 [(fT YF [], ae1),
  (fT aad (fF YF []), ad7),
  (fT (.v 7447) (fT W0 U9), Cc),
  (fF (.v 7447) (fT W0 U9), oO (.o2 .beq (.o1 .not (.o2 .seq (.v 7441) (.sl []))) abn) []),
  (fF W0 U9, Cc),
  (fF adt (fT YA Wt), Cc),
  (fF YA Wt, Cc),
  (fF acG (fT VZ Ww), Cc),
  (fF VZ Ww, Cc),
  (fF acw (fT XI Wh), oO (.o2 .le (.o1 .size (.v 7441)) pZ) Cc),
  (fF XI Wh, ad7)]
abbrev oq : E := .v 7450
abbrev oX : E := .v 2136
abbrev abM : E := .uf 150 (eP (eC 0 oq oX) (eP (eC 1 oq oX) (eP (eC 2 oq oX) (eP (eC 3 oq oX) (eP (eC 4 oq oX) (eP (eC 5 oq oX) (eP (eC 6 oq oX) (eP (eC 7 oq oX) nM))))))))
abbrev UH : E := .o2 .lt oX (.o1 .ab oq)
abbrev aaJ : List Ob := oO (.uf 136 (eP (eC 0 oq oX) (eP (eC 1 oq oX) (eP (eC 2 oq oX) (eP (eC 3 oq oX) (eP (eC 4 oq oX) (eP (eC 5 oq oX) nM))))))) []
abbrev Zp : E := .uf 151 (eP oq nM)
def Ml : List (aa × List Ob) :=
 [(fT abM (fT UH []), oO (.o2 .lt oX (.uf 152 (eP oq nM))) (oO (.o2 .le (.o2 .add oX (.il 1)) (.il 9223372036854775807)) aaJ)),
  (fF abM (fT UH []), oO Zp aaJ),
  (fF UH [], oO (.o1 .not Zp) [])]
abbrev Y4 : E := .uf 151 (eP (.v 7451) nM)
abbrev Zo : E := .uf 153 (eP (.v 7451) nM)
def Ut : List (aa × List Ob) :=
 [(fT Y4 [], oO (.o2 .beq XF Zo) []),
  (fF Y4 [], oO (.o2 .beq (.o2 .le (.o1 .ab (.v 7451)) (.il 20)) Zo) [])]
end Go.Proofs.YtdlppkhmmclipaaGreat.sxObj
