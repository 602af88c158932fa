/-
  OBJECTS: the contracts of their functions.
-/
import Derived.Test.YtdlppkhmmclipaaGreatSxMLoopH
import Derived.Shelf.Sort.Plain
import Derived.Sort.KeysCollected
import Derived.Test.YtdlppkhmmclipaaGreatChecked
import Derived.Sort.Walk0
namespace Go.Sx
open Go.RowKit Go.Sort Go.Proofs
set_option linter.unusedVariables false
set_option linter.unusedSimpArgs false
def strK : DKs := .cons .str .nil
def keyS (r : List Dv) : List UInt8 := (r.headD (.i 0)).S.data.toList
def rowS (b : List UInt8) : List Dv := [.s ⟨b.toArray⟩]
def sortT (l : List (List Dv)) : List (List Dv) := ((l.map keyS).mergeSort leB).map rowS
theorem sortT_len {l : List (List Dv)} : (sortT l).length = l.length := by simp [sortT]
theorem sortT_perm {l l' : List (List Dv)} (h : l.Perm l') : sortT l = sortT l' := by
  unfold sortT; rw [mergeSort_of_perm (h.map keyS)]
def sortedE (c : Nat) (e : E) : E := .uf c (.o2 .cel e (.il 0))
def sortB (c : Nat) (n : Nat) (T : TypeId) (len e : E) (nx : Nat) : Prog (SV × Nat) := do
  vcE (mk2 .ieq len (mk1 .tlen e))
  vcE (leE len (.il 4611686018427387903))
  putN n (.row T 1 len [.tc .str (sortedE c e) 0] [])
  return (.tup [], nx)
def sortP (c : Nat) (args : List SV) (nx : Nat) : Option (Prog (SV × Nat)) :=
  match args with
  | [.nilsl] => some (.ret (.tup [], nx))
  | [.sl n 1 (.il 0) len] => some (do
    let o <- getN n
    match o with
    | .bag T (.cons .str .nil) e => sortB c n T len e nx
    | .row T 1 rl [.tc .str e 0] [] => do
      vcE (mk2 .ieq rl (mk1 .tlen e))
      sortB c n T len e nx
    | _ => .fail "sort: of what")
  | _ => none
def sortF (f : FuncId) : FunY := { f := f, args := [.dsl strK (.il 0)], params := [], ent := [], app := fun _ => true, exits := [(.bl true, 0)], kind := fun _ => some 0, out := fun _ => .tup [], X := XCtr.none, fuel := 300, np := 20 }
theorem sort_empty {P : Program} (hP : Plain P) (hM : P.follows .mixedOrders = true) {f : FuncId} (ho : (sortF f).obl P = some [([], [])]) (w : World) (A : Option Addr) (cap : Nat) :
    Calls P f #[.slice A 0 cap] w fun e w' => e = .returned (.tuple #[]) /\ Kept (anchor w) w' := by
  have h := FunY.fun_core hP hM ho (e' := pureEnv fun _ _ => .i 0) (fun A => extOk_none) hold_nil (by simp only [allL_cons, allL_nil, and_true]; intro _ y hy; cases hy)
  have h0 : HSat (pureEnv fun _ _ => .i 0) (anchorF w ⟨fun _ => none, ⟨fun _ => none, fun _ _ => none⟩⟩) ⟨fun _ => none, ⟨fun _ => none, fun _ _ => none⟩⟩ (cden (arHeap [])) w :=
    arHeap_sat ⟨rfl, rfl, rfl, Nat.le_refl _, fun _ _ => rfl⟩ rfl (fun b x h => by cases h) (fun b x h => by cases h)
  refine (h w _ [.slice A 0 cap] h0 ⟨_, [], rfl, ⟨A, cap, rfl, Nat.zero_le _, fun h => absurd h (Nat.lt_irrefl 0)⟩, rfl⟩).mono fun e w' hq => ?_; obtain ⟨m, xs, ρ', v, nq, e2, hh, rfl, hxs, t1, hle', HS, hnx, g1⟩ := hq; obtain ⟨x, rfl, hx⟩ := g1; have hx : x = [] := hx; subst hx; exact ⟨rfl, ⟨HS.below.os, HS.below.tape, HS.below.output, HS.below.size, HS.below.block⟩⟩
theorem mapBlock_set {w : World} {b : Nat} {cs : Array Value} {T : TypeId} {fr : Nat × Nat} (h : w.heap[b]? = some (.cells cs T fr)) (f : Array Value -> Array Value) : mapBlock w b f = w.setBlk b (.cells (f cs) T fr) := by
  have hlt := (Array.getElem?_eq_some_iff.1 h).1; unfold mapBlock World.setBlk
  congr 1
  apply Array.ext_getElem?
  intro k; rw [Array.getElem?_modify]
  by_cases hk : b = k
  . subst hk; rw [if_pos rfl, h, Array.getElem?_setIfInBounds, if_pos rfl, if_pos hlt]; rfl
  . simp [hk]
theorem putCells_toL {d : Array (List UInt8)} {cs : Array Value} (h : d.size <= cs.size) : (Go.Sort.putCells encStr 0 d cs).toList = (d.toList.map encStr) ++ cs.toList.drop d.size := by
  apply List.ext_getElem?
  intro k; unfold Go.Sort.putCells; rw [Array.getElem?_toList, Array.getElem?_mapIdx]
  by_cases hk : k < d.size
  . have hkc : k < cs.size := by omega
    rw [List.getElem?_append_left (by simpa using hk)]
    simp [hk, hkc, Array.getElem?_eq_getElem hkc]
  . rw [List.getElem?_append_right (by simp; omega)]
    simp only [List.length_map, Array.length_toList, List.getElem?_drop]; rw [show d.size + (k - d.size) = k by omega, Array.getElem?_toList]
    cases hc : cs[k]? with
    | none => simp
    | some v => simp [hk]
section
variable {P : Program} {env : Env} {A : Anchor} {ρ : PMap} {h : Heap} {w : World}
theorem HSat.sorted (H : HSat env A ρ h w) {n : Nat} {T : TypeId} {e : E} {c : Nat} {len : E} {p : Pl} {l : List (List Dv)} {cs : Array Value} {o : SObj} (hn : hget h n = some o) (ho : o.owner = true) (hp : ρ n = some p) (hK : ¬ A.K p.block) (hb0 : p.base = 0) (hni : p.nil = false)
    (hw : w.heap[p.block]? = some (.cells cs T (0, 0))) (hbag : BagRel strK ρ.fz (e.den env) p l cs) (hlen : (len.den env).I = ((e.den env).T.length : Int)) (hu : ∀ d, env.uf c d = .t (sortT (d.row.headD (.i 0)).T)) (k : Nat) (os : Array Obj) :
    HSat env A ρ (hput h n (.row T 1 len [.tc .str (sortedE c e) 0] [])) (grow (putRow encStr (Sort.ahead w k) p.block 0 ((l.map keyS).mergeSort leB).toArray) os) := by
  have H1 : HSat env A ρ h (Sort.ahead w k) := H.drawn rfl rfl rfl rfl; have hw1 : (Sort.ahead w k).heap[p.block]? = some (.cells cs T (0, 0)) := hw; obtain ⟨b1, b2, b3, b4⟩ := hbag; have hd1 : strK.len = 1 := rfl; rw [hd1, Nat.mul_one] at b2; have hsl : ((l.map keyS).mergeSort leB).toArray.size = l.length := by simp
  have hsort : sortT (e.den env).T = ((l.map keyS).mergeSort leB).map rowS := by rw [<- sortT_perm b1]; rfl
  have hcells := putCells_toL (d := ((l.map keyS).mergeSort leB).toArray) (cs := cs) (by rw [hsl]; omega)
  have hpr : putRow encStr (Sort.ahead w k) p.block 0 ((l.map keyS).mergeSort leB).toArray = (Sort.ahead w k).setBlk p.block (.cells (Go.Sort.putCells encStr 0 ((l.map keyS).mergeSort leB).toArray cs) T (0, 0)) := mapBlock_set hw1 _
  have hden : ((sortedE c e).den env) = .t (sortT (e.den env).T) := by
    show env.uf c _ = _; rw [hu]; rfl
  have hlN : (len.den env).I.toNat = l.length := by rw [hlen, Int.toNat_natCast, b1.length_eq]
  have H2 : HSat env A ρ (hput h n (.row T 1 len [.tc .str (sortedE c e) 0] [])) ((Sort.ahead w k).setBlk p.block (.cells (Go.Sort.putCells encStr 0 ((l.map keyS).mergeSort leB).toArray cs) T (0, 0))) := by
    refine H1.update hn ho hp rfl ⟨p, ((l.map keyS).mergeSort leB).map encStr, cs.toList.drop l.length, hp, hK, hb0, hni, ⟨_, [], (List.append_nil _).symm, by rw [hlN]; simp, fun i hi j col hc => ?_, rfl, (fun t ht => by cases ht), Nat.le_refl _⟩, ?_, ?_⟩
    . rw [hlN] at hi; cases j with
      | succ j => simp at hc
      | zero =>
        simp only [List.getElem?_cons_zero, Option.some.injEq] at hc; subst hc; have hil : i < ((l.map keyS).mergeSort leB).length := by simpa using hi
        refine ⟨encStr ((l.map keyS).mergeSort leB)[i], by rw [Nat.mul_one, Nat.add_zero, List.getElem?_map, List.getElem?_eq_getElem hil]; rfl, ?_⟩
        rw [Col.at, dcellS_rel]; simp only [DK.Rel, E.den, O2.den]
        have e1 : (((sortedE c e).den env).at ((i : Int).toNat) 0) = .s ⟨((l.map keyS).mergeSort leB)[i].toArray⟩ := by
          rw [hden, hsort]; unfold Dv.at; simp only [Dv.T, Int.toNat_natCast, List.getElem?_map, List.getElem?_eq_getElem hil, Option.map_some, Option.getD_some, rowS, List.getElem?_cons_zero]
        rw [show (Dv.i (i : Int)).I.toNat = ((i : Int).toNat) from rfl, e1]; rfl
    . simp only [List.length_append, List.length_map, List.length_mergeSort, List.length_drop, Array.length_toList]; omega
    . have := setBlk_same (w := Sort.ahead w k) (o := .cells (Go.Sort.putCells encStr 0 ((l.map keyS).mergeSort leB).toArray cs) T (0, 0)) hw1; rw [this, <- hsl]
      congr 1
      show Obj.cells _ T (0, 0) = _
      congr 1
      rw [<- Array.toList_inj, hcells]
  rw [hpr]; refine H2.stay ⟨rfl, rfl, rfl, ?_, fun b hb => ?_⟩
  . simp [grow, anchor]
  . show (_ ++ os)[b]? = _; exact Array.getElem?_append_left hb
end
theorem putRow_no (w : World) (b : Nat) : putRow encStr w b 0 (([] : List (List UInt8)).toArray) = w := by
  refine mapBlock_id w b _ fun c e fr _ => ?_; rw [<- Array.toList_inj, putCells_toL (Nat.zero_le _)]; rfl
theorem sort_ok {P : Program} (hP : Plain P) (hM : P.follows .mixedOrders = true) {f : FuncId} (ho : (sortF f).obl P = some [([], [])]) {env : Env} {c : Nat}
    (hs : ∀ (blk off cap : Nat) (ss : List (List UInt8)) (w : World), Holds encStr w blk off ss.toArray -> blk < w.heap.size -> ss.length < 4611686018427387904 ->
      Calls P f #[.slice (some ⟨blk, off, none⟩) ss.length cap] w fun e w' => e = .returned (.tuple #[]) /\ ∃ n os, w' = grow (putRow encStr (Sort.ahead w n) blk off (ss.mergeSort leB).toArray) os)
    (hu : ∀ d, env.uf c d = .t (sortT (d.row.headD (.i 0)).T)) : FnOk P env f (sortP c) := by
  intro w0 args nx p h r h' nx' hp hr; unfold sortP at hp; split at hp
  . injection hp with hp; subst hp; simp only [run_ret, Prod.mk.injEq] at hr; obtain ⟨⟨rfl, rfl⟩, rfl⟩ := hr; refine ⟨Nat.le_refl _, fun ρ w vs H hn ha => ?_⟩; simp only [SV.Rels, SV.Rel] at ha; obtain ⟨v, q, rfl, rfl, rfl⟩ := ha; refine (sort_empty hP hM ho w none 0).mono fun e w' hq => ?_; obtain ⟨rfl, K⟩ := hq; exact ⟨ρ, _, rfl, PMap.le_refl ρ, H.stay K, hn, [], rfl, rfl⟩
  . rename_i n len; injection hp with hp; subst hp
    have main : ∀ (T : TypeId) (e : E) (o : SObj), hget h n = some o -> o.owner = true -> (∀ {A : Anchor} {ρ : PMap} {w : World}, HSat env A ρ h w -> (SObj.bag T strK e).Rel env A ρ n w) -> (sortB c n T len e nx).Run env h (r, nx') h' ->
        nx <= nx' /\ ∀ ρ w vs, HSat env w0 ρ h w -> (∀ n p, ρ n = some p -> n < nx) -> SV.Rels env ρ [.sl n 1 (.il 0) len] vs ->
          Calls P f vs.toArray w fun e w' => ∃ ρ' v, e = .returned v /\ ρ.le ρ' /\ HSat env w0 ρ' h' w' /\ (∀ n p, ρ' n = some p -> n < nx') /\ r.Rel env ρ' v := by
      intro T e o hget ho' hbag hrun; simp only [sortB, run_bind, run_vcE, run_putN, run_pure, Prod.mk.injEq] at hrun; obtain ⟨_, _, ⟨h1, rfl⟩, _, _, ⟨h2, rfl⟩, _, _, rfl, ⟨rfl, rfl⟩, rfl⟩ := hrun
      have hlen : (len.den env).I = ((e.den env).T.length : Int) := by
        rw [mk2_den] at h1; have h1 : ((len.den env).I == ((mk1 .tlen e).den env).I) = true := h1; rw [mk1_den] at h1; exact eq_of_beq h1
      have hmax : (len.den env).I <= 4611686018427387903 := by
        rw [B_leE, I_il] at h2; exact of_decide_eq_true h2
      refine ⟨Nat.le_refl _, fun ρ w vs H hn ha => ?_⟩; obtain ⟨p, l, cs, q1, q2, q3, q4, q5, q6⟩ := hbag H; simp only [SV.Rels, SV.Rel] at ha; obtain ⟨v, q, rfl, ⟨p', A', g1, rfl, g2, g3, g4, g5⟩, rfl⟩ := ha; rw [q1] at g1; injection g1 with g1; subst g1; have hz0 : ((E.il 0).den env).I.toNat = 0 := rfl; rw [hz0] at g3 g4 ⊢; have hlN : (len.den env).I.toNat = l.length := by rw [hlen, Int.toNat_natCast, q6.1.length_eq]
      have put := fun k os => H.sorted (n := n) (c := c) (len := len) hget ho' q1 q2 q3 q4 q5 q6 hlen hu k os; rcases Nat.eq_zero_or_pos l.length with h0 | h0
      . rw [hlN, h0]; refine (sort_empty hP hM ho w A' (p.cap - 0)).mono fun e w' hq => ?_; obtain ⟨rfl, K⟩ := hq; have H0 := put 0 #[]; have hl0 : l = [] := List.length_eq_zero_iff.1 h0; rw [hl0] at H0; simp only [List.map_nil, List.mergeSort_nil, grow_empty, ahead_zero, putRow_no] at H0; exact ⟨ρ, _, rfl, PMap.le_refl ρ, H0.stay K, hn, [], rfl, rfl⟩
      . have hcap := q6.2.2.1; have hA := g3 (by omega)
        rw [q3, Nat.zero_mul] at hA; subst hA; have hd1 : strK.len = 1 := rfl
        have hH : Holds encStr w p.block 0 (l.map keyS).toArray := by
          intro j hj; have hjl : j < l.length := by simpa using hj
          have := q6.2.2.2 j hjl; simp only [strK, DKs.Rel, DK.Rel, DKs.len] at this; obtain ⟨⟨v, v1, v2⟩, _⟩ := this; simp only [Nat.zero_add, Nat.mul_one, Nat.add_zero] at v1 v2; constructor
          . show (match w.heap[p.block]? with | some (.cells c _ _) => c[0 + j]? | _ => none) = _
            rw [q5, Nat.zero_add]; show cs[j]? = _; rw [v1, v2]
            have : ((l.map keyS).toArray)[j]! = keyS l[j] := by
              rw [getElem!_pos _ j (by simpa using hjl)]
              simp
            rw [this]
            congr 1
            show Value.string _ = Value.string _
            have e1 : (Dv.t l).at j 0 = l[j].headD (.i 0) := by
              unfold Dv.at; simp only [Dv.T, List.getElem?_eq_getElem hjl, Option.getD_some]; cases l[j] <;> rfl
            rw [e1]; unfold keyS; simp
          . show World.frozen? w _ = false; simp [World.frozen?, q5]
        have hsz : (l.map keyS).length < 4611686018427387904 := by simp; omega
        have hblk := (Array.getElem?_eq_some_iff.1 q5).1; have := hs p.block 0 (p.cap - 0) (l.map keyS) w hH hblk hsz; rw [List.length_map] at this; rw [hlN]; refine this.mono fun e w' hq => ?_; obtain ⟨rfl, k, os, rfl⟩ := hq; exact ⟨ρ, _, rfl, PMap.le_refl ρ, put k os, hn, [], rfl, rfl⟩
    simp only [run_bind, run_getN] at hr; obtain ⟨o, _, ⟨ho1, rfl⟩, hr⟩ := hr; split at hr
    . rename_i T e; exact main T e _ ho1 rfl (fun H => H.objs n _ ho1) hr
    . rename_i T rl e; simp only [run_bind, run_vcE] at hr; obtain ⟨_, _, ⟨h1, rfl⟩, hr⟩ := hr; refine main T e _ ho1 rfl (fun H => ?_) hr
      have hrl : (rl.den env).I = ((e.den env).T.length : Int) := by
        rw [mk2_den] at h1; have h1 : ((rl.den env).I == ((mk1 .tlen e).den env).I) = true := h1; rw [mk1_den] at h1; exact eq_of_beq h1
      have := SObj.ent_ok env env id (A := _) (B := _) (fun _ h => h) (n := n) (m := n) (o := .row T 1 rl [.tc .str e 0] []) (o' := .bag T strK e) ⟨rfl, rfl, Nat.one_pos, rfl, e, rfl, hrl, List.Perm.refl _⟩ rfl rfl (H.objs n _ ho1); exact this
    . exact hr.elim
  . cases hp
end Go.Sx
namespace Go.Sx
open Go.RowKit FunY
set_option linter.unusedVariables false
set_option linter.unusedSimpArgs false
def FnsOk (P : Program) (o : Env) : List (FuncId × (List SV -> Nat -> Option (Prog (SV × Nat)))) -> Prop
  | [] => True
  | x :: l => FnOk P o x.1 x.2 /\ FnsOk P o l
def LpsOk (P : Program) (o : Env) : List (FuncId × Nat × (Fr -> Nat -> Option (Prog (SExit × Fr × Nat)))) -> Prop
  | [] => True
  | x :: l => LpOk P o x.1 x.2.1 x.2.2 /\ LpsOk P o l
theorem FnsOk.mem {P : Program} {o : Env} : ∀ {l : List (FuncId × (List SV -> Nat -> Option (Prog (SV × Nat))))}, FnsOk P o l -> ∀ x ∈ l, FnOk P o x.1 x.2
  | [], _, x, hx => by cases hx
  | y :: l, ⟨h, k⟩, x, hx => by
    rcases List.mem_cons.1 hx with rfl | hx
    . exact h
    . exact k.mem x hx
theorem LpsOk.mem {P : Program} {o : Env} : ∀ {l : List (FuncId × Nat × (Fr -> Nat -> Option (Prog (SExit × Fr × Nat))))}, LpsOk P o l -> ∀ x ∈ l, LpOk P o x.1 x.2.1 x.2.2
  | [], _, x, hx => by cases hx
  | y :: l, ⟨h, k⟩, x, hx => by
    rcases List.mem_cons.1 hx with rfl | hx
    . exact h
    . exact k.mem x hx
theorem ctr_ok {P : Program} {o : Env} {c : Ctr} (hap : c.lps.all (fun x => loopsApart P x.1) = true) (hf : FnsOk P o c.fns) (hl : LpsOk P o c.lps) (A : Anchor) : ExtOk P o A (c.x.toExt P) := Ctr.ok hap hf.mem hl.mem A
theorem ctr_okd {P : Program} {o : Env} {c : Ctr} (hap : c.lps.all (fun x => loopsApart P x.1) = true) (hf : FnsOk P o c.fns) (hl : LpsOk P o c.lps) (A : Anchor) : ExtOk P o A (c.x.dies.toExt P) := Ctr.ok hap hf.mem hl.mem A
theorem E.den_of {e e' : Env} (hv : e.v = e'.v) (hf : e.fn = e'.fn) (hu : e.uf = e'.uf) : ∀ x : E, x.den e = x.den e'
  | .v n => congrFun hv n
  | .il _ => rfl
  | .bl _ => rfl
  | .sl _ => rfl
  | .fn c a => by show e.fn c _ = e'.fn c _; rw [hf, E.den_of hv hf hu a]
  | .uf c a => by show e.uf c _ = e'.uf c _; rw [hu, E.den_of hv hf hu a]
  | .o1 o a => by show o.den _ = o.den _; rw [E.den_of hv hf hu a]
  | .o2 o a b => by show o.den _ _ = o.den _ _; rw [E.den_of hv hf hu a, E.den_of hv hf hu b]
  | .ext a b c => by simp only [E.den, E.den_of hv hf hu a, E.den_of hv hf hu b, E.den_of hv hf hu c]
theorem round_den (D : LoopY) {e : Env} {u : Nat -> Value} {i : Nat} {x : E} (h : x.noV D.r = true) : x.den (D.env e u i) = x.den e := by
  rw [E.den_of (e := D.env e u i) (e' := setG e D.r (.i i)) rfl rfl rfl x]; exact E.den_noV (setG_but e D.r (.i i)) h
theorem round_hold (D : LoopY) {e : Env} {u : Nat -> Value} {i : Nat} {fs : Facts} (h : noVF D.r fs = true) (hf : fs.Hold e) : fs.Hold (D.env e u i) := fun x b hm => by
  rw [round_den D (List.all_eq_true.1 h _ hm)]; exact hf x b hm
theorem round_r (D : LoopY) {e : Env} {u : Nat -> Value} {i : Nat} : (D.env e u i).v D.r = .i i := by
  show (if D.r = D.r then _ else _) = _
  rw [if_pos rfl]
structure Cnt1 (P : Program) (D : LoopY) (lenE : E) (L : List (Facts × List Ob)) : Prop where
  ob : D.obl P 0 = some L
  body : ((P.funcs[D.f]?).bind (·.body)).isSome = true
  fs : (D.hd 0).fs = (.o2 .le (.il 0) (.v D.r), true) :: (.o2 .le (.v D.r) lenE, true) :: D.ent 0
  no : (noVF D.r (D.ent 0) && lenE.noV D.r) = true
  lt : D.lt = .o2 .lt (.v D.r) lenE
  k : ∀ m, D.ok0 m = true -> m = 0
  t : ∀ m, D.tgt m = true -> m = 0
  hx : ∀ ν, ((D.hx ν).h.all fun x => headObj x.2) = true
theorem Cnt1.ok {P : Program} (hP : Plain P) (hM : P.follows .mixedOrders = true) {D : LoopY} {lenE : E} {L : List (Facts × List Ob)} (C : Cnt1 P D lenE L) {env : Env}
    (hnn : ∀ o, o.uf = env.uf -> (D.ent 0).Hold o -> 0 <= (lenE.den o).I)
    (hX : ∀ o A, o.uf = env.uf -> ExtOk P o A (D.X.toExt P))
    (hL : ∀ o (i : Nat), o.uf = env.uf -> (D.ent 0).Hold o -> o.v D.r = .i i -> (i : Int) <= (lenE.den o).I -> AllL o L) : LpOk P env D.f D.key D.lpP := by
  have hno := C.no; rw [Bool.and_eq_true] at hno
  have hln : ∀ {e' : Env} {u : Nat -> Value} {i : Nat}, D.ent 0 |>.Hold e' -> LoopY.Like D env e' -> i <= (lenE.den e').I.toNat -> (i : Int) <= (lenE.den (D.env e' u i)).I := fun {e' u i} h he hi => by
    rw [round_den D hno.2]; have := hnn e' he.uf h; omega
  refine one_ok hP hM C.body (fun e => (lenE.den e).I.toNat) C.ob C.k C.t C.hx (fun e' i u A he _ _ => hX _ A he.uf) (fun e' he h i u hi => hL _ i he.uf (round_hold D hno.1 h) (round_r D) (hln h he hi)) (fun e' he h i u hi => ?_) (fun e' he h i u hi hl => ?_)
  . rw [C.fs]; refine hold_cons_iff.2 ⟨?_, hold_cons_iff.2 ⟨?_, round_hold D hno.1 h⟩⟩
    . rw [dB_le, dI_il, d_v, round_r]; exact decide_eq_true (Int.natCast_nonneg i)
    . rw [dB_le, d_v, round_r]; exact decide_eq_true (hln h he hi)
  . rw [C.lt, dB_lt, d_v, round_r, round_den D hno.2] at hl; have hl := of_decide_eq_true hl; have : (Dv.i (i : Int)).I = i := rfl; omega
structure Cnt2 (P : Program) (D : LoopY) (lenE : E) (L0 L1 : List (Facts × List Ob)) : Prop where
  ob0 : D.obl P 0 = some L0
  ob1 : D.obl P 1 = some L1
  body : ((P.funcs[D.f]?).bind (·.body)).isSome = true
  fs0 : (D.hd 0).fs = (.o2 .ieq (.v D.r) (.il 0), true) :: (.o2 .le (.il 0) (.v D.r), true) :: (.o2 .le (.v D.r) lenE, true) :: D.ent 0
  fs1 : (D.hd 1).fs = (.o2 .lt (.il 0) (.v D.r), true) :: (.o2 .le (.il 0) (.v D.r), true) :: (.o2 .le (.v D.r) lenE, true) :: D.ent 0
  no : (noVF D.r (D.ent 0) && lenE.noV D.r) = true
  lt : D.lt = .o2 .lt (.v D.r) lenE
  k : ∀ m, D.ok0 m = true -> m = 0
  t : ∀ m, D.tgt m = true -> m = 1
  hx : ∀ ν, ((D.hx ν).h.all fun x => headObj x.2) = true
theorem Cnt2.ok {P : Program} (hP : Plain P) (hM : P.follows .mixedOrders = true) {D : LoopY} {lenE : E} {L0 L1 : List (Facts × List Ob)} (C : Cnt2 P D lenE L0 L1) {env : Env}
    (hnn : ∀ o, o.uf = env.uf -> (D.ent 0).Hold o -> 0 <= (lenE.den o).I)
    (hX : ∀ o A, o.uf = env.uf -> ExtOk P o A (D.X.toExt P))
    (hL0 : ∀ o, o.uf = env.uf -> (D.ent 0).Hold o -> o.v D.r = .i (0 : Nat) -> 0 <= (lenE.den o).I -> AllL o L0)
    (hL1 : ∀ o (i : Nat), o.uf = env.uf -> (D.ent 0).Hold o -> o.v D.r = .i i -> 0 < i -> (i : Int) <= (lenE.den o).I -> AllL o L1) : LpOk P env D.f D.key D.lpP := by
  have hno := C.no; rw [Bool.and_eq_true] at hno
  have hln : ∀ {e' : Env} {u : Nat -> Value} {i : Nat}, D.ent 0 |>.Hold e' -> LoopY.Like D env e' -> i <= (lenE.den e').I.toNat -> (i : Int) <= (lenE.den (D.env e' u i)).I := fun {e' u i} h he hi => by
    rw [round_den D hno.2]; have := hnn e' he.uf h; omega
  refine two_ok hP hM C.body (fun e => (lenE.den e).I.toNat) C.ob0 C.ob1 C.k C.t C.hx (fun e' i u A he _ _ => hX _ A he.uf)
    (fun e' he h u => hL0 _ he.uf (round_hold D hno.1 h) (round_r D) (by rw [round_den D hno.2]; exact hnn e' he.uf h))
    (fun e' he h i u h0 hi => hL1 _ i he.uf (round_hold D hno.1 h) (round_r D) h0 (hln h he hi)) (fun e' he h u => ?_) (fun e' he h i u h0 hi => ?_) (fun e' he h i u hi hl => ?_)
  . rw [C.fs0]; refine hold_cons_iff.2 ⟨?_, hold_cons_iff.2 ⟨?_, hold_cons_iff.2 ⟨?_, round_hold D hno.1 h⟩⟩⟩
    . rw [dB_ieq, dI_il, d_v, round_r]; exact decide_eq_true rfl
    . rw [dB_le, dI_il, d_v, round_r]; exact decide_eq_true (Int.natCast_nonneg 0)
    . rw [dB_le, d_v, round_r]; exact decide_eq_true (hln h he (Nat.zero_le _))
  . rw [C.fs1]; refine hold_cons_iff.2 ⟨?_, hold_cons_iff.2 ⟨?_, hold_cons_iff.2 ⟨?_, round_hold D hno.1 h⟩⟩⟩
    . rw [dB_lt, dI_il, d_v, round_r]; exact decide_eq_true (by show (0 : Int) < (i : Int); omega)
    . rw [dB_le, dI_il, d_v, round_r]; exact decide_eq_true (Int.natCast_nonneg i)
    . rw [dB_le, d_v, round_r]; exact decide_eq_true (hln h he hi)
  . rw [C.lt, dB_lt, d_v, round_r, round_den D hno.2] at hl; have hl := of_decide_eq_true hl; have : (Dv.i (i : Int)).I = i := rfl; omega
structure CntM (P : Program) (D : LoopY) (lenE : E) (L : Nat -> List (Facts × List Ob)) : Prop where
  ob : ∀ m, (D.ok0 m || D.tgt m) = true -> D.obl P m = some (L m)
  body : ((P.funcs[D.f]?).bind (·.body)).isSome = true
  fs : ∀ m, (D.hd m).fs = D.mf m ++ (.o2 .le (.il 0) (.v D.r), true) :: (.o2 .le (.v D.r) lenE, true) :: D.ent 0
  ent : ∀ m, D.ent m = D.ent 0
  no : (noVF D.r (D.ent 0) && lenE.noV D.r) = true
  lt : D.lt = .o2 .lt (.v D.r) lenE
  hx : ∀ ν, ((D.hx ν).h.all fun x => headObj x.2) = true
theorem CntM.ok {P : Program} (hP : Plain P) (hM : P.follows .mixedOrders = true) {D : LoopY} {lenE : E} {L : Nat -> List (Facts × List Ob)} (C : CntM P D lenE L) {env : Env}
    (hnn : ∀ o, o.uf = env.uf -> (D.ent 0).Hold o -> 0 <= (lenE.den o).I)
    (hX : ∀ o A, o.uf = env.uf -> ExtOk P o A (D.X.toExt P))
    (hL : ∀ o (i m : Nat), o.uf = env.uf -> (D.ent 0).Hold o -> (D.mf m).Hold o -> (D.ok0 m || D.tgt m) = true -> o.v D.r = .i i -> (i : Int) <= (lenE.den o).I -> AllL o (L m)) : LpOk P env D.f D.key D.lpP := by
  have hno := C.no; rw [Bool.and_eq_true] at hno
  have hln : ∀ {e' : Env} {u : Nat -> Value} {i : Nat}, D.ent 0 |>.Hold e' -> LoopY.Like D env e' -> i <= (lenE.den e').I.toNat -> (i : Int) <= (lenE.den (D.env e' u i)).I := fun {e' u i} h he hi => by
    rw [round_den D hno.2]; have := hnn e' he.uf h; omega
  refine LoopY.lp_okP hP hM C.body (fun e' he μ0 h0 hent => ?_) C.hx; rw [C.ent] at hent
  refine ⟨⟨(lenE.den e').I.toNat, fun u i μ => (D.ok0 μ || D.tgt μ) = true /\ (D.mf μ).Hold (D.env e' u i), L, fun i u A _ => hX _ A he.uf, fun u i μ hm => C.ob μ hm.1,
    fun i μ u hm hi x hx hfx => allL_mem (hL (D.env e' u i) i μ he.uf (round_hold D hno.1 hent) hm.2 hm.1 (round_r D) (hln hent he hi)) x hx hfx, fun i μ u hm hi => ?_, fun i u hi hl => ?_,
    fun u i μ μ' hm ht hmf _ => ⟨μ', ⟨by rw [ht, Bool.or_true], hmf⟩, SameH.refl _⟩, fun u hmf => ⟨μ0, ⟨by rw [h0, Bool.true_or], hmf⟩, SameH.refl _⟩⟩⟩
  . rw [C.fs]; refine hold_append hm.2 (hold_cons_iff.2 ⟨?_, hold_cons_iff.2 ⟨?_, round_hold D hno.1 hent⟩⟩)
    . rw [dB_le, dI_il, d_v, round_r]; exact decide_eq_true (Int.natCast_nonneg i)
    . rw [dB_le, d_v, round_r]; exact decide_eq_true (hln hent he hi)
  . rw [C.lt, dB_lt, d_v, round_r, round_den D hno.2] at hl; have hl := of_decide_eq_true hl; have : (Dv.i (i : Int)).I = i := rfl; omega
theorem fun_by {P : Program} (hP : Plain P) (hM : P.follows .mixedOrders = true) {D : FunY} {env : Env} {L : List (Facts × List Ob)} (hob : D.obl P = some L)
    (hX : ∀ o A, o.uf = env.uf -> ExtOk P o A (D.X.toExt P)) (hL : ∀ o, o.uf = env.uf -> D.ent.Hold o -> AllL o L) : FnOk P env D.f D.funP :=
  fun_ok hP hM hob (fun e' A he => hX e' A he.uf) (fun e' he => hL e' he.uf)
def cntF (r : Nat) (m : Nat) (lenE : E) : Facts := (match m with | 0 => (.o2 .ieq (.v r) (.il 0), true) | _ => (.o2 .lt (.il 0) (.v r), true)) :: (.o2 .le (.il 0) (.v r), true) :: [(.o2 .le (.v r) lenE, true)]
def mapT (f key N r : Nat) (J : List Nat) (fx : List (Nat × SV)) (out idx T : Nat) (dks : DKs) (res lenE : E) (ent : Facts) (params : List Nat) (X : XCtr) (ex : Nat) (objs : CHeap := []) : LoopY where
  f := f; key := key; N := N; r := r; base := 5000 + 1000 * (r - 2000)
  js := J
  hd := fun m => ⟨fx ++ [(out, match m with | 0 => .nilsl | _ => .sl 8 dks.len (.il 0) (.v r)), (idx, .int .i64 (.v r))], (match m with | 0 => objs | _ => (8, .row T dks.len (.v r) (tcCols dks res 0) []) :: objs), 9, cntF r m lenE ++ ent⟩
  ent := fun _ => ent
  app := fun _ => true
  ok0 := fun m => Nat.beq m 0
  modeL := fun sl => match nth sl out with | some .nilsl => .ret 0 | some (.sl ..) => .ret 1 | _ => .fail
  tgt := fun m => Nat.beq m 1
  mf := fun _ => []
  hx := fun _ => ⟨fx ++ [(out, .dsl dks res), (idx, .top)], objs, 9, []⟩
  xmL := fun _ _ => .ret 0
  exN := fun _ => .exit ex
  exits := [(.bl true, 0)]
  fixed := objs.map (·.1)
  lt := .o2 .lt (.v r) lenE
  X := X
  fuel := 300; np := 80
  params := params
  kds := [(T, dks)]
end Go.Sx
namespace Go.Sx
open Go.RowKit
set_option linter.unusedVariables false
set_option linter.unusedSimpArgs false
def ar (d : Dv) (k : Nat) : Dv := cc (row d 0) k
theorem ar_0 {a b : Dv} : ar (O2.den .cel a b) 0 = a := id rfl
theorem ar_1 {a b c : Dv} : ar (O2.den .cel a (O2.den .cel b c)) 1 = b := id rfl
theorem ar_2 {a b c d : Dv} : ar (O2.den .cel a (O2.den .cel b (O2.den .cel c d))) 2 = c := id rfl
theorem ar_3 {a b c d e : Dv} : ar (O2.den .cel a (O2.den .cel b (O2.den .cel c (O2.den .cel d e)))) 3 = d := id rfl
theorem ar_4 {a b c d e f : Dv} : ar (O2.den .cel a (O2.den .cel b (O2.den .cel c (O2.den .cel d (O2.den .cel e f))))) 4 = e := id rfl
theorem ar_5 {a b c d e f g : Dv} : ar (O2.den .cel a (O2.den .cel b (O2.den .cel c (O2.den .cel d (O2.den .cel e (O2.den .cel f g)))))) 5 = f := id rfl
theorem ar_6 {a b c d e f g h : Dv} : ar (O2.den .cel a (O2.den .cel b (O2.den .cel c (O2.den .cel d (O2.den .cel e (O2.den .cel f (O2.den .cel g h))))))) 6 = g := id rfl
theorem ar_7 {a b c d e f g h i : Dv} : ar (O2.den .cel a (O2.den .cel b (O2.den .cel c (O2.den .cel d (O2.den .cel e (O2.den .cel f (O2.den .cel g (O2.den .cel h i)))))))) 7 = h := id rfl
theorem ar_8 {a b c d e f g h i j : Dv} : ar (O2.den .cel a (O2.den .cel b (O2.den .cel c (O2.den .cel d (O2.den .cel e (O2.den .cel f (O2.den .cel g (O2.den .cel h (O2.den .cel i j))))))))) 8 = i := id rfl
theorem d_mf {env : Env} {q : KQ} {a b : E} : (E.o2 (.mf q) a b).den env = .i (mfindI q (b.den env) (a.den env).T) := id rfl
theorem dI_mf {env : Env} {q : KQ} {a b : E} : ((E.o2 (.mf q) a b).den env).I = mfindI q (b.den env) (a.den env).T := id rfl
theorem d_mul {env : Env} {a b : E} : (E.o2 .mul a b).den env = .i ((a.den env).I * (b.den env).I) := id rfl
theorem d_sub {env : Env} {a b : E} : (E.o2 .sub a b).den env = .i ((a.den env).I - (b.den env).I) := id rfl
theorem d_mn {env : Env} {a b : E} : (E.o2 .mn a b).den env = .i (if (b.den env).I < (a.den env).I then (b.den env).I else (a.den env).I) := id rfl
theorem d_cat {env : Env} {a b : E} : (E.o2 .cat a b).den env = .s ((a.den env).S ++ (b.den env).S) := id rfl
theorem dT_mp {env : Env} {q : KQ} {a b : E} : ((E.o2 (.mp q) a b).den env).T = mput q (a.den env).T (b.den env).row := id rfl
theorem dT_md {env : Env} {q : KQ} {a b : E} : ((E.o2 (.md q) a b).den env).T = mdel q (a.den env).T (b.den env) := id rfl
theorem dT_tset {env : Env} {a b : E} : ((E.o2 .tset a b).den env).T = (a.den env).T.set ((b.den env).row.headD (.i 0)).I.toNat (b.den env).row.tail := id rfl
theorem d_tset {env : Env} {a b : E} : (E.o2 .tset a b).den env = .t ((a.den env).T.set ((b.den env).row.headD (.i 0)).I.toNat (b.den env).row.tail) := id rfl
theorem d_tcat {env : Env} {a b : E} : (E.o2 .tcat a b).den env = .t ((a.den env).T ++ (b.den env).T) := id rfl
theorem d_drop {env : Env} {a b : E} : (E.o2 .tdrop a b).den env = .t ((a.den env).T.drop (b.den env).I.toNat) := id rfl
theorem row_cel {a b : Dv} : (O2.den .cel a b).row = a :: b.row := id rfl
theorem row_i {z : Int} : (Dv.i z).row = [] := id rfl
theorem dB_slt {env : Env} {a b : E} : ((E.o2 .slt a b).den env).B = bytesLt (a.den env).S (b.den env).S := id rfl
theorem ob_p {env : Env} {a b : E} : (Ob.p a b).den env ↔ (a.den env).T.Perm (b.den env).T := Iff.rfl
theorem cc_0 {a : Dv} {l : List Dv} : cc (a :: l) 0 = a := id rfl
theorem cc_1 {a b : Dv} {l : List Dv} : cc (a :: b :: l) 1 = b := id rfl
theorem cc_2 {a b c : Dv} {l : List Dv} : cc (a :: b :: c :: l) 2 = c := id rfl
theorem row_0 {a b : Dv} : row (O2.den .cel a b) 0 = a :: b.row := id rfl
theorem toNat_succ {r : Nat} : ((r : Int) + 1).toNat = r + 1 := by omega
theorem row_lt {d : Dv} {n : Nat} (h : n < d.T.length) : d.T[n]? = some (row d n) := by
  unfold row; rw [List.getElem?_eq_getElem h]; rfl
theorem row_map {l : List (List Dv)} {f : List Dv -> List Dv} {n : Nat} (h : n < l.length) : row (.t (l.map f)) n = f (row (.t l) n) := by
  unfold row; simp only [Dv.T, List.getElem?_map, List.getElem?_eq_getElem h, Option.map_some, Option.getD_some]
theorem row_mem {d : Dv} {n : Nat} (h : n < d.T.length) : row d n ∈ d.T := List.mem_of_getElem? (row_lt h)
theorem mem_row {d : Dv} {r : List Dv} (h : r ∈ d.T) : ∃ n, n < d.T.length /\ row d n = r := by
  obtain ⟨n, hn, rfl⟩ := List.mem_iff_getElem.1 h; exact ⟨n, hn, by unfold row; rw [List.getElem?_eq_getElem hn]; rfl⟩
noncomputable def dec (p : Prop) : Bool := @decide p (Classical.propDecidable p)
theorem dec_iff {p : Prop} : dec p = true ↔ p := by unfold dec; simp
theorem take_all {α : Type} {l : List α} {n : Nat} (h : l.length <= n) : l.take n = l := List.take_of_length_le h
theorem toList_data (a : ByteArray) : a.toList = a.data.toList := by
  have : a = ByteArray.mk a.data.toList.toArray := by cases a; simp
  rw [this, ByteArray.toList_mk]
theorem SS : (((((((∀ {env : Env} {x : E} {b : Bool} {fs : Facts}, Facts.Hold env ((x, b) :: fs) ↔ (E.den env x).B = b /\ Facts.Hold env fs) /\
  ((∀ {env : Env}, Facts.Hold env [] ↔ True) /\
  (∀ {env : Env} {x : Ob} {l : List Ob}, AllT env (x :: l) ↔ Ob.den env x /\ AllT env l))) /\
  ((∀ {env : Env}, AllT env [] ↔ True) /\
  ((∀ {env : Env} {x : E}, Ob.den env (Ob.e x) ↔ (E.den env x).B = true) /\
  (∀ {env : Env} {a b : E}, Ob.den env (Ob.t a b) ↔ (E.den env a).T = (E.den env b).T)))) /\
  (((∀ {env : Env} {a b : E}, Ob.den env (Ob.p a b) ↔ (E.den env a).T.Perm (E.den env b).T) /\
  ((∀ {env : Env} {a b : E}, (E.den env (E.o2 O2.lt a b)).B = decide ((E.den env a).I < (E.den env b).I)) /\
  (∀ {env : Env} {a b : E}, (E.den env (E.o2 O2.le a b)).B = decide ((E.den env a).I <= (E.den env b).I)))) /\
  ((∀ {env : Env} {a b : E}, (E.den env (E.o2 O2.ieq a b)).B = decide ((E.den env a).I = (E.den env b).I)) /\
  ((∀ {env : Env} {a b : E}, (E.den env (E.o2 O2.beq a b)).B = ((E.den env a).B == (E.den env b).B)) /\
  (∀ {env : Env} {a b : E}, (E.den env (E.o2 O2.seq a b)).B = ((E.den env a).S.toList == (E.den env b).S.toList)))))) /\
  ((((∀ {env : Env} {a b : E}, (E.den env (E.o2 O2.slt a b)).B = bytesLt (E.den env a).S (E.den env b).S) /\
  ((∀ {env : Env} {a b : E}, (E.den env (E.o2 O2.and a b)).B = ((E.den env a).B && (E.den env b).B)) /\
  (∀ {env : Env} {a b : E}, (E.den env (E.o2 O2.or a b)).B = ((E.den env a).B || (E.den env b).B)))) /\
  ((∀ {env : Env} {a : E}, (E.den env (E.o1 O1.not a)).B = !(E.den env a).B) /\
  ((∀ {env : Env} {b : Bool}, (E.den env (E.bl b)).B = b) /\
  (∀ {env : Env} {z : Int}, (E.den env (E.il z)).I = z)))) /\
  (((∀ {env : Env} {a b : E}, (E.den env (E.o2 O2.sub a b)).I = (E.den env a).I - (E.den env b).I) /\
  ((∀ {env : Env} {a b : E}, (E.den env (E.o2 O2.add a b)).I = (E.den env a).I + (E.den env b).I) /\
  (∀ {env : Env} {a b : E}, (E.den env (E.o2 O2.mul a b)).I = (E.den env a).I * (E.den env b).I))) /\
  ((∀ {env : Env} {a : E}, (E.den env (E.o1 O1.tlen a)).I = (((E.den env a).T.length : Nat) : Int)) /\
  ((∀ {env : Env} {a : E}, (E.den env (E.o1 O1.size a)).I = (((E.den env a).S.size : Nat) : Int)) /\
  (∀ {env : Env} {a b : E}, (E.den env (E.o2 O2.mx a b)).I = if (E.den env b).I > (E.den env a).I then (E.den env b).I else (E.den env a).I)))))) /\
  (((((∀ {env : Env} {a b : E}, (E.den env (E.o2 O2.mn a b)).I = if (E.den env b).I < (E.den env a).I then (E.den env b).I else (E.den env a).I) /\
  ((∀ {env : Env} {q : KQ} {a b : E}, (E.den env (E.o2 (O2.mf q) a b)).I = mfindI q (E.den env b) (E.den env a).T) /\
  (∀ {env : Env} {j : Nat} {a b : E}, E.den env (E.o2 (O2.cell j) a b) = cc (row (E.den env a) (E.den env b).I.toNat) j))) /\
  ((∀ {env : Env} {q : KQ} {a b : E}, E.den env (E.o2 (O2.mf q) a b) = Dv.i (mfindI q (E.den env b) (E.den env a).T)) /\
  ((∀ {env : Env} {c : Nat} {a : E}, E.den env (E.uf c a) = env.uf c (E.den env a)) /\
  (∀ {env : Env} {a b : E}, E.den env (E.o2 O2.cel a b) = O2.cel.den (E.den env a) (E.den env b))))) /\
  (((∀ {env : Env} {n : Nat}, E.den env (E.v n) = env.v n) /\
  ((∀ {env : Env} {z : Int}, E.den env (E.il z) = Dv.i z) /\
  (∀ {env : Env} {z : Bool}, E.den env (E.bl z) = Dv.b z))) /\
  ((∀ {env : Env} {s : List UInt8}, E.den env (E.sl s) = Dv.s { data := s.toArray }) /\
  ((∀ {env : Env} {a b : E}, E.den env (E.o2 O2.add a b) = Dv.i ((E.den env a).I + (E.den env b).I)) /\
  (∀ {env : Env} {a b : E}, E.den env (E.o2 O2.sub a b) = Dv.i ((E.den env a).I - (E.den env b).I)))))) /\
  ((((∀ {env : Env} {a b : E}, E.den env (E.o2 O2.mul a b) = Dv.i ((E.den env a).I * (E.den env b).I)) /\
  ((∀ {env : Env} {a b : E}, E.den env (E.o2 O2.mn a b) = Dv.i (if (E.den env b).I < (E.den env a).I then (E.den env b).I else (E.den env a).I)) /\
  (∀ {env : Env} {a : E}, E.den env (E.o1 O1.tlen a) = Dv.i (((E.den env a).T.length : Nat) : Int)))) /\
  ((∀ {env : Env} {a b : E}, E.den env (E.o2 O2.tset a b) = Dv.t ((E.den env a).T.set ((E.den env b).row.headD (Dv.i 0)).I.toNat (E.den env b).row.tail)) /\
  ((∀ {env : Env} {a b : E}, E.den env (E.o2 O2.tcat a b) = Dv.t ((E.den env a).T ++ (E.den env b).T)) /\
  (∀ {env : Env} {a b : E}, E.den env (E.o2 O2.ttake a b) = Dv.t (List.take (E.den env b).I.toNat (E.den env a).T))))) /\
  (((∀ {env : Env} {a b : E}, E.den env (E.o2 O2.tdrop a b) = Dv.t (List.drop (E.den env b).I.toNat (E.den env a).T)) /\
  ((∀ {env : Env} {a b : E}, E.den env (E.o2 O2.cat a b) = Dv.s ((E.den env a).S ++ (E.den env b).S)) /\
  (∀ {env : Env} {s : List UInt8}, (E.den env (E.sl s)).S = { data := s.toArray }))) /\
  (((∀ {env : Env} {q : KQ} {a b : E}, (E.den env (E.o2 (O2.md q) a b)).T = mdel q (E.den env a).T (E.den env b)) /\
  (∀ {env : Env} {q : KQ} {a b : E}, (E.den env (E.o2 (O2.mp q) a b)).T = mput q (E.den env a).T (E.den env b).row)) /\
  ((∀ {env : Env} {a b : E}, (E.den env (E.o2 O2.tset a b)).T = (E.den env a).T.set ((E.den env b).row.headD (Dv.i 0)).I.toNat (E.den env b).row.tail) /\
  (∀ {env : Env} {a b : E}, (E.den env (E.o2 O2.tcat a b)).T = (E.den env a).T ++ (E.den env b).T))))))) /\
  ((((((∀ {env : Env} {a b : E}, (E.den env (E.o2 O2.ttake a b)).T = List.take (E.den env b).I.toNat (E.den env a).T) /\
  ((∀ {env : Env} {a b : E}, (E.den env (E.o2 O2.tdrop a b)).T = List.drop (E.den env b).I.toNat (E.den env a).T) /\
  (∀ {a b : Dv}, ar (O2.cel.den a b) 0 = a))) /\
  ((∀ {a b c : Dv}, ar (O2.cel.den a (O2.cel.den b c)) 1 = b) /\
  ((∀ {a b c d : Dv}, ar (O2.cel.den a (O2.cel.den b (O2.cel.den c d))) 2 = c) /\
  (∀ {a b c d e : Dv}, ar (O2.cel.den a (O2.cel.den b (O2.cel.den c (O2.cel.den d e)))) 3 = d)))) /\
  (((∀ {a b c d e f : Dv}, ar (O2.cel.den a (O2.cel.den b (O2.cel.den c (O2.cel.den d (O2.cel.den e f))))) 4 = e) /\
  ((∀ {a b c d e f g : Dv}, ar (O2.cel.den a (O2.cel.den b (O2.cel.den c (O2.cel.den d (O2.cel.den e (O2.cel.den f g)))))) 5 = f) /\
  (∀ {a b c d e f g h : Dv}, ar (O2.cel.den a (O2.cel.den b (O2.cel.den c (O2.cel.den d (O2.cel.den e (O2.cel.den f (O2.cel.den g h))))))) 6 = g))) /\
  ((∀ {a b c d e f g h i : Dv}, ar (O2.cel.den a (O2.cel.den b (O2.cel.den c (O2.cel.den d (O2.cel.den e (O2.cel.den f (O2.cel.den g (O2.cel.den h i)))))))) 7 = h) /\
  ((∀ {a b c d e f g h i j : Dv}, ar (O2.cel.den a (O2.cel.den b (O2.cel.den c (O2.cel.den d (O2.cel.den e (O2.cel.den f (O2.cel.den g (O2.cel.den h (O2.cel.den i j))))))))) 8 = i) /\
  (∀ {l : List (List Dv)}, (Dv.t l).T = l))))) /\
  ((((∀ {z : Int}, (Dv.i z).T = []) /\
  ((∀ {a b : Dv}, (O2.cel.den a b).T = [a :: b.T.head?.getD []]) /\
  (∀ (z : Int), (Dv.i z).I = z))) /\
  ((∀ (z : Bool), (Dv.b z).B = z) /\
  ((∀ (z : ByteArray), (Dv.s z).S = z) /\
  (∀ {a b : Dv}, (O2.cel.den a b).row = a :: b.row)))) /\
  (((∀ {z : Int}, (Dv.i z).row = []) /\
  ((∀ {a b : Dv}, row (O2.cel.den a b) 0 = a :: b.row) /\
  (∀ {r : Nat}, (((r : Int)) + 1).toNat = r + 1))) /\
  (((∀ (n : Nat), ((n : Int)).toNat = n) /\
  (Int.toNat 0 = 0)) /\
  ((∀ {p : Prop} [inst : Decidable p], (decide p = true) = p) /\
  (∀ {p : Prop} {x : Decidable p}, decide p = false ↔ ¬p)))))) /\
  (((((∀ {α : Type} [inst : BEq α] [LawfulBEq α] {a b : α}, (a == b) = true ↔ a = b) /\
  ((∀ {α : Type} [inst : BEq α] [LawfulBEq α] {a b : α}, (a == b) = false ↔ a ≠ b) /\
  (∀ {α : Type}, ([] : List α).head? = none))) /\
  ((∀ {α : Type} {a : α} {l : List α}, (a :: l).head? = some a) /\
  ((∀ {α : Type} {a : α}, (none : Option α).getD a = a) /\
  (∀ {α : Type} {a b : α}, (some a).getD b = a)))) /\
  (((∀ {α : Type} {a : α} {l : List α} {d : α}, (a :: l).headD d = a) /\
  ((∀ {α : Type} {a : α} {l : List α}, (a :: l).tail = l) /\
  (∀ {a : Dv} {l : List Dv}, cc (a :: l) 0 = a))) /\
  ((∀ {a b : Dv} {l : List Dv}, cc (a :: b :: l) 1 = b) /\
  ((∀ {a b c : Dv} {l : List Dv}, cc (a :: b :: c :: l) 2 = c) /\
  (∀ (p : Prop), (False /\ p) = False))))) /\
  ((((∀ (p : Prop), (p /\ False) = False) /\
  (((¬False) = True) /\
  ((¬True) = False))) /\
  ((∀ (p : Prop), (False -> p) = True) /\
  ((∀ (α : Prop), (∀ (a : α), True) = True) /\
  (∀ (p : Prop), (p /\ True) = p)))) /\
  (((∀ (p : Prop), (True /\ p) = p) /\
  (((true = false) = False) /\
  ((false = true) = False))) /\
  (((∀ (b : Bool), ((!b) = true) = (b = false)) /\
  (∀ (b : Bool), ((!b) = false) = (b = true))) /\
  (((!true) = false) /\
  ((!false) = true)))))))) :=
  ⟨⟨⟨⟨⟨⟨@hold_cons_iff, ⟨@hold_nil_iff, @allT_cons⟩⟩, ⟨@allT_nil, ⟨@ob_e, @ob_t⟩⟩⟩, ⟨⟨@ob_p, ⟨@dB_lt, @dB_le⟩⟩, ⟨@dB_ieq, ⟨@dB_beq, @dB_seq⟩⟩⟩⟩, ⟨⟨⟨@dB_slt, ⟨@dB_and, @dB_or⟩⟩, ⟨@dB_not, ⟨@dB_bl, @dI_il⟩⟩⟩, ⟨⟨@dI_sub, ⟨@dI_add, @dI_mul⟩⟩, ⟨@dI_tlen, ⟨@dI_size, @dI_mx⟩⟩⟩⟩⟩, ⟨⟨⟨⟨@dI_mn, ⟨@dI_mf, @d_cell⟩⟩, ⟨@d_mf, ⟨@d_uf, @d_cel⟩⟩⟩, ⟨⟨@d_v, ⟨@d_il, @d_bl⟩⟩, ⟨@d_sl, ⟨@d_add, @d_sub⟩⟩⟩⟩, ⟨⟨⟨@d_mul, ⟨@d_mn, @d_tlen⟩⟩, ⟨@d_tset, ⟨@d_tcat, @d_take⟩⟩⟩, ⟨⟨@d_drop, ⟨@d_cat, @dS_sl⟩⟩, ⟨⟨@dT_md, @dT_mp⟩, ⟨@dT_tset, @dT_cat⟩⟩⟩⟩⟩⟩, ⟨⟨⟨⟨⟨@dT_take, ⟨@dT_drop, @ar_0⟩⟩, ⟨@ar_1, ⟨@ar_2, @ar_3⟩⟩⟩, ⟨⟨@ar_4, ⟨@ar_5, @ar_6⟩⟩, ⟨@ar_7, ⟨@ar_8, @T_t⟩⟩⟩⟩, ⟨⟨⟨@T_i, ⟨@T_cel, @I_i⟩⟩, ⟨@B_b, ⟨@S_s, @row_cel⟩⟩⟩, ⟨⟨@row_i, ⟨@row_0, @toNat_succ⟩⟩, ⟨⟨@Int.toNat_natCast, @Int.toNat_zero⟩, ⟨@decide_eq_true_eq, @decide_eq_false_iff_not⟩⟩⟩⟩⟩, ⟨⟨⟨⟨@beq_iff_eq, ⟨@beq_eq_false_iff_ne, @List.head?_nil⟩⟩, ⟨@List.head?_cons, ⟨@Option.getD_none, @Option.getD_some⟩⟩⟩, ⟨⟨@List.headD_cons, ⟨@List.tail_cons, @cc_0⟩⟩, ⟨@cc_1, ⟨@cc_2, @false_and⟩⟩⟩⟩, ⟨⟨⟨@and_false, ⟨@not_false_eq_true, @not_true_eq_false⟩⟩, ⟨@false_implies, ⟨@implies_true, @and_true⟩⟩⟩, ⟨⟨@true_and, ⟨@Bool.true_eq_false, @Bool.false_eq_true⟩⟩, ⟨⟨@Bool.not_eq_true', @Bool.not_eq_false'⟩, ⟨@Bool.not_true, @Bool.not_false⟩⟩⟩⟩⟩⟩⟩
end Go.Sx
namespace Go.Proofs.YtdlppkhmmclipaaGreat
open Go Go.Shelf Go.Sx Go.Sort
def lays190_ren : Ren :=
{
  f := fun x =>
    match x with
    | 190 => 69
    | 125 => 91
    | 258 => 90
    | 128 => 106
    | 129 => 107
    | 302 => 97
    | 303 => 98
    | 304 => 99
    | 305 => 100
    | 306 => 101
    | 307 => 102
    | 308 => 103
    | 309 => 104
    | 310 => 105
    | 333 => 110
    | 329 => 111
    | 330 => 112
    | 334 => 113
    | 335 => 114
    | 336 => 115
    | 344 => 117
    | n => n,
  t := fun x =>
    match x with
    | 31 => 34
    | 9 => 9
    | 3 => 3
    | 46 => 200
    | 0 => 0
    | 51 => 226
    | 53 => 228
    | 4 => 4
    | 183 => 219
    | 182 => 218
    | 131 => 40
    | 5 => 5
    | 218 => 233
    | 222 => 237
    | 228 => 239
    | 229 => 240
    | n => n,
  g := fun x =>
    have n := x;
    n }
theorem lays190 : Lays.n190 Tryz.prog lays190_ren :=
{ mixed := Eq.refl true, f125 := Eq.trans Tryz.func91 (congrArg some (Eq.refl (Body.n125 lays190_ren))),
  f128 := Eq.trans Tryz.func106 (congrArg some (Eq.refl (Body.n128 lays190_ren))),
  f129 := Eq.trans Tryz.func107 (congrArg some (Eq.refl (Body.n129 lays190_ren))),
  f190 := Eq.trans Tryz.func69 (congrArg some (Eq.refl (Body.n190 lays190_ren))),
  f258 := Eq.trans Tryz.func90 (congrArg some (Eq.refl (Body.n258 lays190_ren))),
  f302 := Eq.trans Tryz.func97 (congrArg some (Eq.refl (Body.n302 lays190_ren))),
  f303 := Eq.trans Tryz.func98 (congrArg some (Eq.refl (Body.n303 lays190_ren))),
  f304 := Eq.trans Tryz.func99 (congrArg some (Eq.refl (Body.n304 lays190_ren))),
  f305 := Eq.trans Tryz.func100 (congrArg some (Eq.refl (Body.n305 lays190_ren))),
  f306 := Eq.trans Tryz.func101 (congrArg some (Eq.refl (Body.n306 lays190_ren))),
  f307 := Eq.trans Tryz.func102 (congrArg some (Eq.refl (Body.n307 lays190_ren))),
  f308 := Eq.trans Tryz.func103 (congrArg some (Eq.refl (Body.n308 lays190_ren))),
  f309 := Eq.trans Tryz.func104 (congrArg some (Eq.refl (Body.n309 lays190_ren))),
  f310 := Eq.trans Tryz.func105 (congrArg some (Eq.refl (Body.n310 lays190_ren))),
  f329 := Eq.trans Tryz.func111 (congrArg some (Eq.refl (Body.n329 lays190_ren))),
  f330 := Eq.trans Tryz.func112 (congrArg some (Eq.refl (Body.n330 lays190_ren))),
  f333 := Eq.trans Tryz.func110 (congrArg some (Eq.refl (Body.n333 lays190_ren))),
  f334 := Eq.trans Tryz.func113 (congrArg some (Eq.refl (Body.n334 lays190_ren))),
  f335 := Eq.trans Tryz.func114 (congrArg some (Eq.refl (Body.n335 lays190_ren))),
  f336 := Eq.trans Tryz.func115 (congrArg some (Eq.refl (Body.n336 lays190_ren))),
  f344 := Eq.trans Tryz.func117 (congrArg some (Eq.refl (Body.n344 lays190_ren))), t0 := Tryz.underlying0,
  a0 := Tryz.isAgg0, z0 := Tryz.sizeOf0, v0 := Tryz.zeroValue0, t3 := Tryz.underlying3, a3 := Tryz.isAgg3,
  z3 := Tryz.sizeOf3, v3 := Tryz.zeroValue3, t4 := Tryz.underlying4, a4 := Tryz.isAgg4, z4 := Tryz.sizeOf4,
  v4 := Tryz.zeroValue4, t5 := Tryz.underlying5, a5 := Tryz.isAgg5, z5 := Tryz.sizeOf5, v5 := Tryz.zeroValue5,
  t9 := Tryz.underlying9, a9 := Tryz.isAgg9, z9 := Tryz.sizeOf9, v9 := Tryz.zeroValue9, t31 := Tryz.underlying34,
  a31 := Tryz.isAgg34, z31 := Tryz.sizeOf34, v31 := Tryz.zeroValue34, t46 := Tryz.underlying200, a46 := Tryz.isAgg200,
  z46 := Tryz.sizeOf200, v46 := Tryz.zeroValue200, t51 := Tryz.underlying226, a51 := Tryz.isAgg226,
  z51 := Tryz.sizeOf226, v51 := Tryz.zeroValue226, t53 := Tryz.underlying228, a53 := Tryz.isAgg228,
  z53 := Tryz.sizeOf228, v53 := Tryz.zeroValue228, t131 := Tryz.underlying40, a131 := Tryz.isAgg40,
  z131 := Tryz.sizeOf40, v131 := Tryz.zeroValue40, t182 := Tryz.underlying218, a182 := Tryz.isAgg218,
  z182 := Tryz.sizeOf218, v182 := Tryz.zeroValue218, t183 := Tryz.underlying219, a183 := Tryz.isAgg219,
  z183 := Tryz.sizeOf219, v183 := Tryz.zeroValue219, t218 := Tryz.underlying233, a218 := Tryz.isAgg233,
  z218 := Tryz.sizeOf233, v218 := Tryz.zeroValue233, t222 := Tryz.underlying237, a222 := Tryz.isAgg237,
  z222 := Tryz.sizeOf237, v222 := Tryz.zeroValue237, t228 := Tryz.underlying239, a228 := Tryz.isAgg239,
  z228 := Tryz.sizeOf239, v228 := Tryz.zeroValue239, t229 := Tryz.underlying240, a229 := Tryz.isAgg240,
  z229 := Tryz.sizeOf240, v229 := Tryz.zeroValue240 }
theorem sort_says (blk off cap : Nat) (ss : List (List UInt8)) (w : World) (hH : Holds encStr w blk off ss.toArray) (hb : blk < w.heap.size) (hl : ss.length < 4611686018427387904) :
    Calls Tryz.prog 69 #[.slice (some ⟨blk, off, none⟩) ss.length cap] w fun e w' => e = .returned (.tuple #[]) /\ ∃ n os, w' = grow (putRow encStr (Sort.ahead w n) blk off (ss.mergeSort leB).toArray) os :=
  Any.slices_Sort_string (ρ := lays190_ren) lays190 blk off cap ss w hH hb hl
end Go.Proofs.YtdlppkhmmclipaaGreat
namespace Go.Proofs.YtdlppkhmmclipaaGreat
abbrev fObjIn : Nat := 35
abbrev fObjsIn : Nat := 36
abbrev fObjOut : Nat := 47
abbrev fObjsOut : Nat := 38
abbrev fByKeys : Nat := 68
abbrev fKeyOf : Nat := 48
abbrev fKeys : Nat := 39
abbrev fMeta : Nat := 27
abbrev fObjKey : Nat := 13
abbrev fObjsAt : Nat := 14
abbrev fSameObj : Nat := 15
abbrev fSameLabels : Nat := 31
abbrev fContains : Nat := 65
abbrev fIndex : Nat := 86
abbrev fSort : Nat := 69
abbrev fCmp : Nat := 89
abbrev fStabCmp : Nat := 96
abbrev fInsCmp : Nat := 108
abbrev fSymMerge : Nat := 109
abbrev fRotate : Nat := 116
abbrev fKeysA : Nat := 189
abbrev tObj : Nat := 82
abbrev tObject : Nat := 159
abbrev tOPair : Nat := 160
abbrev tIPair : Nat := 133
abbrev tIObj : Nat := 30
abbrev tStr : Nat := 9
abbrev tAny : Nat := 20
abbrev tZzErr : Nat := 155
abbrev tStAns : Nat := 37
abbrev tInt : Nat := 3
end Go.Proofs.YtdlppkhmmclipaaGreat
namespace Go.Proofs.YtdlppkhmmclipaaGreat.sxObj
open Go.Sx Go.RowKit Go.Proofs.YtdlppkhmmclipaaGreat
set_option linter.unusedVariables false
def rgN (a b : Nat) : List Nat := (List.range (b - a)).map (· + a)
def pairK : DKs := .cons .str (.cons .str .nil)
def objK : DKs := .cons .str (.cons .str (.cons .str (.cons .str (.cons (.sl pairK) (.cons .str (.cons .bool (.cons .bool .nil)))))))
def oK : DKs := .cons .str (.cons .str (.cons .str (.cons .str (.cons (.sl pairK) (.cons .str (.cons .bool (.cons .bool (.cons .nilm .nil))))))))
def aC : DK := .ifc tObj (.fp oK)
def aK : DKs := .cons aC .nil
def cells8 (e : Nat -> E) (lab : SV) : List SV := [.str (e 0), .str (e 1), .str (e 2), .str (e 3), lab, .str (e 5), .bool (e 6), .bool (e 7)]
def obj8 (e : Nat -> E) : List SV := cells8 e (.dsl pairK (e 4))
def vE (b j : Nat) : E := .v (b + j)
def cE (x i : E) (j : Nat) : E := .o2 (.cell j) x i
def pk8 (e : Nat -> E) : List E := [e 0, e 1, e 2, e 3, e 4, e 5, e 6, e 7]
def okO (e : Nat -> E) : E := .uf 110 (pk [e 0, e 1, e 4])
def okL (l : E) : E := .uf 111 (pk [l])
def keyE (e : Nat -> E) : E := .uf 100 (pk [e 0, e 1])
def lenE (l : E) : E := .o1 .tlen l
def inE (e : Nat -> E) : E := rowOf [e 0, e 1, e 2, e 3, e 4, e 5, e 6, e 7, .il 0]
def objInY : LoopY where
  f := fObjIn; key := 3; N := 43; r := 2100; base := 105000
  js := rgN 21 42
  hd := fun m => ⟨[(1, .ptr 1 (.c 0)), (3, .ptr 2 (.c 0)), (4, .int .i64 (.v 2100))],
    (match m with | 0 => [] | _ => [(8, .row tOPair 2 (.v 2100) (tcCols pairK (.v 7104) 0) [])]) ++
    [(2, .cells tObject (cells8 (vE 7100) (match m with | 0 => .nilsl | _ => .sl 8 2 (.il 0) (.v 2100)) ++ [.nilmap])), (1, .cells tIObj (obj8 (vE 7100)))], 9,
    cntF 2100 m (lenE (.v 7104)) ++ [(.o2 .le (lenE (.v 7104)) (.il 2147483647), true)]⟩
  ent := fun _ => [(.o2 .le (lenE (.v 7104)) (.il 2147483647), true)]
  app := fun _ => true
  ok0 := fun m => Nat.beq m 0
  modeL := fun sl => match nth sl 3 with | some (.ptr n _) => .get n fun o => (match o with | .cells _ cs => (match nth cs 4 with | some .nilsl => .ret 0 | some (.sl ..) => .ret 1 | _ => .fail) | _ => .fail) | _ => .fail
  tgt := fun m => Nat.beq m 1
  mf := fun _ => []
  hx := fun _ => ⟨[(1, .ptr 1 (.c 0)), (3, .ptr 2 (.c 0)), (4, .top)], [(2, .cells tObject (obj8 (vE 7100) ++ [.nilmap])), (1, .cells tIObj (obj8 (vE 7100)))], 9, []⟩
  xmL := fun _ _ => .ret 0
  exN := fun _ => .exit 0
  exits := [(.bl true, 0)]
  fixed := [1, 2]
  lt := .o2 .lt (.v 2100) (lenE (.v 7104))
  X := XCtr.none
  fuel := 300; np := 80
  params := rgN 7100 7108
  kds := [(tOPair, pairK)]
def objInF : FunY where
  f := fObjIn
  args := [.agg (obj8 (vE 7110))]
  params := rgN 7110 7118
  ent := [(okO (vE 7110), true)]
  app := fun _ => true
  kds := [(tObject, oK)]
  exits := [(.bl true, 0)]
  kind := fun _ => some 0
  out := fun _ => .dptr oK (inE (vE 7110)) (.il 0) 0
  X := (⟨[], [(fObjIn, 3, objInY.lpP)]⟩ : Ctr).x
  fuel := 300; np := 80
def objsInY : LoopY := mapT fObjsIn 3 21 2101 (rgN 5 20) [(0, .dsl objK (.v 7120))] 3 4 tAny aK (.uf 101 (pk [.v 7120])) (lenE (.v 7120)) [(okL (.v 7120), true), (.o2 .le (lenE (.v 7120)) (.il 2147483647), true)] [7120] (⟨[(fObjIn, objInF.funP)], []⟩ : Ctr).x 0
def objsInF : FunY where
  f := fObjsIn
  args := [.dsl objK (.v 7121)]
  params := [7121]
  ent := [(okL (.v 7121), true), (.o2 .le (lenE (.v 7121)) (.il 2147483647), true)]
  app := fun _ => true
  exits := [(.bl true, 0)]
  kind := fun _ => some 0
  out := fun _ => .dsl aK (.uf 101 (pk [.v 7121]))
  X := (⟨[], [(fObjsIn, 3, objsInY.lpP)]⟩ : Ctr).x
  fuel := 300; np := 80
def x0 : E := .v 7130
def i0 : E := .v 7131
def objOutY : LoopY where
  f := fObjOut; key := 9; N := 84; r := 2102; base := 107000
  js := rgN 62 83
  hd := fun m => ⟨[(3, .dptr oK x0 i0 0), (7, .ptr 1 (.c 0)), (8, .int .i64 (.v 2102))],
    (match m with | 0 => [] | _ => [(8, .row tIPair 2 (.v 2102) (tcCols pairK (cE x0 i0 4) 0) [])]) ++
    [(1, .cells tIObj (cells8 (cE x0 i0) (match m with | 0 => .nilsl | _ => .sl 8 2 (.il 0) (.v 2102))))], 9,
    cntF 2102 m (lenE (cE x0 i0 4)) ++ [(.o2 .le (lenE (cE x0 i0 4)) (.il 2147483647), true)]⟩
  ent := fun _ => [(.o2 .le (lenE (cE x0 i0 4)) (.il 2147483647), true)]
  app := fun _ => true
  ok0 := fun m => Nat.beq m 0
  modeL := fun sl => match nth sl 7 with | some (.ptr n _) => .get n fun o => (match o with | .cells _ cs => (match nth cs 4 with | some .nilsl => .ret 0 | some (.sl ..) => .ret 1 | _ => .fail) | _ => .fail) | _ => .fail
  tgt := fun m => Nat.beq m 1
  mf := fun _ => []
  hx := fun _ => ⟨[(3, .dptr oK x0 i0 0), (7, .ptr 1 (.c 0)), (8, .top)], [(1, .cells tIObj (obj8 (cE x0 i0)))], 9, []⟩
  xmL := fun _ _ => .ret 0
  exN := fun _ => .exit 0
  exits := [(.bl true, 0)]
  fixed := [1]
  lt := .o2 .lt (.v 2102) (lenE (cE x0 i0 4))
  X := XCtr.none
  fuel := 300; np := 80
  params := [7130, 7131]
  kds := [(tIPair, pairK)]
def anyA (x i : Nat) : SV := .ifc tObj (.dptr oK (.v x) (.v i) 0)
def objOutF : FunY where
  f := fObjOut
  args := [anyA 7135 7136]
  params := [7135, 7136]
  ent := [(okO (cE (.v 7135) (.v 7136)), true)]
  app := fun _ => true
  exits := [(.bl true, 0)]
  kind := fun _ => some 0
  out := fun _ => .agg (obj8 (cE (.v 7135) (.v 7136)))
  X := (⟨[], [(fObjOut, 9, objOutY.lpP)]⟩ : Ctr).x
  fuel := 300; np := 80
def noMeta : List UInt8 := [111, 98, 106, 101, 99, 116, 32, 104, 97, 115, 32, 110, 111, 32, 109, 101, 116, 97, 58, 32, 46, 46]
def metaF : FunY where
  f := fMeta
  args := [anyA 7140 7141]
  params := [7140, 7141]
  ent := [(okO (cE (.v 7140) (.v 7141)), true)]
  app := fun args => match args with | [.ifc t (.dptr ..)] => Nat.beq t tObj | _ => false
  exits := [(cE (.v 7140) (.v 7141) 6, 1), (.bl true, 0)]
  kind := fun r => match r with | .tup [_, .nilif] => some 0 | .tup [_, .ifc ..] => some 1 | _ => none
  out := fun n => match n with | 0 => .tup [.str (keyE (cE (.v 7140) (.v 7141))), .nilif] | _ => .tup [.str (.sl []), .ifc tZzErr (.str (.sl noMeta))]
  X := XCtr.none
  fuel := 300; np := 80
def keyOfF : FunY where
  f := fKeyOf
  args := [.agg (obj8 (vE 7150))]
  params := rgN 7150 7158
  ent := [(okO (vE 7150), true)]
  app := fun _ => true
  exits := [(.v 7156, 1), (.bl true, 0)]
  kind := fun r => match r with | .tup [_, .bool (.bl true)] => some 0 | .tup [_, .bool (.bl false)] => some 1 | _ => none
  out := fun n => match n with | 0 => .tup [.str (keyE (vE 7150)), .bool (.bl true)] | _ => .tup [.str (.sl []), .bool (.bl false)]
  X := (⟨[(fObjIn, objInF.funP), (fMeta, metaF.funP)], []⟩ : Ctr).x
  fuel := 300; np := 80
def objKeyF : FunY where
  f := fObjKey
  args := [.agg (obj8 (vE 7160))]
  params := rgN 7160 7168
  ent := [(okO (vE 7160), true)]
  app := fun _ => true
  exits := [(.v 7166, 1), (.bl true, 0)]
  kind := fun r => match r with | .tup [_, .bool (.bl true)] => some 0 | .tup [_, .bool (.bl false)] => some 1 | _ => none
  out := fun n => match n with | 0 => .tup [.str (keyE (vE 7160)), .bool (.bl true)] | _ => .tup [.str (.sl []), .bool (.bl false)]
  X := XCtr.none
  fuel := 300; np := 80
def atA : E := pk [.v 7170, .v 7171]
def objsAtY : LoopY where
  f := fObjsAt; key := 2; N := 32; r := 2103; base := 108000
  js := [6, 7, 8, 9] ++ rgN 13 30
  hd := fun _ => ⟨[(1, .str (.v 7171)), (4, .int .i64 (.il 0)), (5, .bool (.bl false)), (10, .dsl objK (.v 7170)), (11, .int .i64 (lenE (.v 7170))), (12, .int .i64 (.v 2103))], [], 9,
    (.o2 .le (.il 0) (.v 2103), true) :: (.o2 .le (.v 2103) (.uf 104 atA), true) :: [(okL (.v 7170), true), (.o2 .le (lenE (.v 7170)) (.il 1000000), true)]⟩
  ent := fun _ => [(okL (.v 7170), true), (.o2 .le (lenE (.v 7170)) (.il 1000000), true)]
  app := fun _ => true
  ok0 := fun m => Nat.beq m 0
  modeL := fun _ => .ret 0
  tgt := fun m => Nat.beq m 0
  mf := fun _ => []
  hx := fun n => match n with
    | 1 => ⟨[(1, .top), (4, .int .i64 (.uf 104 atA)), (5, .bool (.uf 105 atA)), (10, .top), (11, .top), (12, .top)], [], 9, []⟩
    | _ => ⟨[(1, .str (.v 7171)), (4, .int .i64 (.il 0)), (5, .bool (.bl false)), (10, .dsl objK (.v 7170)), (11, .int .i64 (lenE (.v 7170))), (12, .top)], [], 9, []⟩
  xmL := fun ex _ => match ex with | .ret => .ret 1 | _ => .ret 0
  exN := fun n => match n with | 1 => .ret | _ => .exit 0
  exits := [(.o2 .lt (.uf 104 atA) (lenE (.v 7170)), 1), (.bl true, 0)]
  fixed := []
  lt := .o2 .lt (.v 2103) (.uf 104 atA)
  X := (⟨[(fObjKey, objKeyF.funP)], []⟩ : Ctr).x
  fuel := 300; np := 80
  params := [7170, 7171]
def objsAtF : FunY where
  f := fObjsAt
  args := [.dsl objK (.v 7173), .str (.v 7174)]
  params := [7173, 7174]
  ent := [(okL (.v 7173), true), (.o2 .le (lenE (.v 7173)) (.il 1000000), true)]
  app := fun _ => true
  exits := [(.bl true, 0)]
  kind := fun _ => some 0
  out := fun _ => .tup [.int .i64 (.uf 104 (pk [.v 7173, .v 7174])), .bool (.uf 105 (pk [.v 7173, .v 7174]))]
  X := (⟨[], [(fObjsAt, 2, objsAtY.lpP)]⟩ : Ctr).x
  fuel := 300; np := 80
def keysF : FunY where
  f := fKeys
  args := [.dsl strK (.v 7198)]
  params := [7198]
  ent := [(.o2 .le (lenE (.v 7198)) (.il 1000000), true)]
  app := fun _ => true
  kds := [(tStr, strK)]
  exits := [(.bl true, 0)]
  kind := fun _ => some 0
  out := fun _ => .dsl strK (.uf 106 (pk [.v 7198]))
  X := (⟨[(fSort, sortP 106)], []⟩ : Ctr).x
  fuel := 300; np := 80
set_option linter.unusedSimpArgs false
abbrev Row := List Dv
def keyB (ns name : ByteArray) : ByteArray := if ns.size = 0 then name else ns ++ ⟨#[47]⟩ ++ name
def kO (r : Row) : ByteArray := keyB (cc r 0).S (cc r 1).S
def bad (r : Row) : Bool := (cc r 6).B
def kS (r : Row) : ByteArray := if bad r = true then ⟨#[]⟩ else kO r
def kl (r : Row) : List UInt8 := (kS r).toList
def eight (r : Row) : Row := [cc r 0, cc r 1, cc r 2, cc r 3, cc r 4, cc r 5, cc r 6, cc r 7]
def nine (r : Row) : Row := [cc r 0, cc r 1, cc r 2, cc r 3, cc r 4, cc r 5, cc r 6, cc r 7, .i 0]
def inRow (r : Row) : Row := [.t [nine r]]
def outRow (r : Row) : Row := eight (row (cc r 0) 0)
def okR (ns name lab : Dv) : Prop := ns.S.size <= 2147483647 /\ name.S.size <= 2147483647 /\ lab.T.length <= 2147483647
def okRow (r : Row) : Prop := okR (cc r 0) (cc r 1) (cc r 4)
def okRows (l : List Row) : Prop := ∀ r ∈ l, okRow r
def atB (l : Dv) (k : ByteArray) (j : Nat) : Bool := !bytesLt (kS (row l j)) k
def atN (l : Dv) (k : ByteArray) : Nat := stop (atB l k) l.T.length
def isAt (l : Dv) (k : ByteArray) : Bool := decide (atN l k < l.T.length) && ((kS (row l (atN l k))).toList == k.toList)
def withT (l : Dv) (k : ByteArray) (o : Row) : List Row := l.T.take (atN l k) ++ o :: l.T.drop (if isAt l k = true then atN l k + 1 else atN l k)
def withoutT (l : Dv) (k : ByteArray) : List Row := if isAt l k = true then l.T.take (atN l k) ++ l.T.drop (atN l k + 1) else l.T
def keyRow (r : Row) : Row := [.s (kS r)]
def Rising (l : List Row) : Prop := (l.Pairwise fun a b => kl a < kl b) /\ ∀ r ∈ l, bad r = false
def dn (lo hi : Int) : Nat -> Int
  | 0 => hi
  | n + 1 => if lo < dn lo hi n then (lo + dn lo hi n).tdiv 2 else dn lo hi n
def up (lo hi : Int) : Nat -> Int
  | 0 => lo
  | n + 1 => if up lo hi n < hi then (up lo hi n + hi).tdiv 2 + 1 else up lo hi n
theorem half {a b : Int} (h0 : 0 <= a) (h : a < b) : a <= (a + b).tdiv 2 /\ (a + b).tdiv 2 < b := by
  rw [Int.tdiv_eq_ediv_of_nonneg (by omega)]
  omega
theorem dn_ok {lo hi : Int} (h0 : 0 <= lo) (h : lo <= hi) : ∀ n : Nat, lo <= dn lo hi n /\ dn lo hi n <= hi /\ (lo < dn lo hi n -> dn lo hi n <= hi - n)
  | 0 => ⟨h, Int.le_refl _, fun _ => by show hi <= hi - ((0 : Nat) : Int); omega⟩
  | n + 1 => by
    obtain ⟨h1, h2, h3⟩ := dn_ok h0 h n; unfold dn; split
    . rename_i hl; have := half h0 hl; have := h3 hl; refine ⟨by omega, by omega, fun _ => by omega⟩
    . exact ⟨h1, h2, fun hh => by omega⟩
theorem up_ok {lo hi : Int} (h0 : 0 <= lo) (h : lo <= hi) : ∀ n : Nat, lo <= up lo hi n /\ up lo hi n <= hi /\ (up lo hi n < hi -> lo + n <= up lo hi n)
  | 0 => ⟨Int.le_refl _, h, fun _ => by show lo + ((0 : Nat) : Int) <= lo; omega⟩
  | n + 1 => by
    obtain ⟨h1, h2, h3⟩ := up_ok h0 h n; unfold up; split
    . rename_i hl; have := half (by omega) hl
      have := h3 hl; refine ⟨by omega, by omega, fun _ => by omega⟩
    . exact ⟨h1, h2, fun hh => by omega⟩
noncomputable def gN (Q : Nat -> Prop) (n : Nat) : Nat := stop (fun j => !dec (Q j)) n
def gAll (Q : Nat -> Prop) (n : Nat) : Prop := ∀ j, j < n -> Q j
theorem g_no {Q : Nat -> Prop} {n r : Nat} (hr : r <= gN Q n) (hl : r < n) (h : Q r) : r < gN Q n := stop_no hr hl (by simp [dec_iff.2 h])
theorem g_bad {Q : Nat -> Prop} {n r : Nat} (hl : r < n) (h : ¬ Q r) : ¬ gAll Q n := fun hg => h (hg r hl)
theorem g_end {Q : Nat -> Prop} {n r : Nat} (hr : r <= gN Q n) (hl : ¬ r < n) : gAll Q n := fun j hj => by
  have hj' : j < stop (fun j => !dec (Q j)) n := by unfold gN at hr; omega
  have h2 := stop_before hj'; have h3 : dec (Q j) = true := by simpa using h2
  exact dec_iff.1 h3
theorem dec_no {p : Prop} : dec p = false ↔ ¬ p := by
  rw [<- Bool.not_eq_true, dec_iff]
theorem f_dec {p : Prop} : false = dec p ↔ ¬ p := eq_comm.trans dec_no
theorem t_dec {p : Prop} : true = dec p ↔ p := eq_comm.trans dec_iff
theorem d_dec {q : Prop} {_ : Decidable q} {p : Prop} : decide q = dec p ↔ (q ↔ p) := by
  by_cases hp : p
  . rw [dec_iff.2 hp]; simp [hp]
  . rw [dec_no.2 hp]; simp [hp]
theorem n_dec {b : Bool} {p : Prop} : (!b) = dec p ↔ (b = false ↔ p) := by
  by_cases hp : p
  . rw [dec_iff.2 hp]; simp [hp]
  . rw [dec_no.2 hp]; simp [hp]
def ixB (l a b : Dv) (j : Nat) : Bool := ((cc (row l j) 0).S.toList == a.S.toList) && ((cc (row l j) 1).S.toList == b.S.toList)
def ixN (l a b : Dv) : Nat := stop (ixB l a b) l.T.length
def stGood (r : Row) : Prop := okRows (cc r 2).T /\ (cc r 2).T.length <= 2147483647 /\ (cc r 3).T.length <= 2147483647
def q7 (l : Dv) (j : Nat) : Prop := (cc (row l j) 0).S.size <= 2147483647 /\ (cc (row l j) 1).S.size <= 2147483647
def fits6 (l : Dv) : Prop := gAll (q7 l) l.T.length /\ l.T.length <= 2147483647
def fit5 (a b c d e f : Dv) : Prop := a.S.size <= 2147483647 /\ b.S.size <= 2147483647 /\ c.S.size <= 2147483647 /\ d.S.size <= 2147483647 /\ fits6 e /\ f.S.size <= 2147483647
def q5 (l : Dv) (j : Nat) : Prop := fit5 (cc (row l j) 0) (cc (row l j) 1) (cc (row l j) 2) (cc (row l j) 3) (cc (row l j) 4) (cc (row l j) 5)
def fits18 (l : Dv) : Prop := gAll (q5 l) l.T.length /\ l.T.length <= 2147483647
def q35 (l : Dv) (j : Nat) : Prop := fit5 (cc (row l j) 1) (cc (row l j) 2) (cc (row l j) 3) (cc (row l j) 4) (cc (row l j) 5) (cc (row l j) 6) /\ fits18 (cc (row l j) 9)
def fits35 (l : Dv) : Prop := gAll (q35 l) l.T.length /\ l.T.length <= 2147483647
def qd (l k : Dv) (j : Nat) : Prop := ¬ (cc (row l j) 0).S.toList = k.S.toList
def qp (l : Dv) (j : Nat) : Prop := (cc (row l j) 0).S.size <= 40 /\ (cc (row l j) 1).S.size <= 40 /\ gAll (qd (.t (l.T.take j)) (cc (row l j) 0)) (l.T.take j).length
def pairsOk (l : Dv) : Prop := gAll (qp l) l.T.length /\ l.T.length <= 6
def qs (s : Dv) (j : Nat) : Prop := ¬ (((s.S.data[j]?.getD 0).toNat : Nat) : Int) = 47
def noSl (s : Dv) : Prop := gAll (qs s) s.S.size
def small (a b c d e f h : Dv) : Prop := noSl a /\ noSl b /\ a.S.size <= 20 /\ b.S.size <= 20 /\ c.S.size <= 20 /\ d.S.size <= 20 /\ f.S.size <= 40 /\ e.T.length <= 4 /\ pairsOk e /\ h.B = false /\ ¬ b.S.toList = []
def qsm (l : Dv) (j : Nat) : Prop := small (cc (row l j) 0) (cc (row l j) 1) (cc (row l j) 2) (cc (row l j) 3) (cc (row l j) 4) (cc (row l j) 5) (cc (row l j) 7)
def smalls (l : Dv) : Prop := gAll (qsm l) l.T.length /\ l.T.length <= 20
def qex (l : Dv) (j : Nat) : Prop := 1 <= (cc (row l j) 0).I /\ (cc (row l j) 0).I <= 7 /\ small (cc (row l j) 1) (cc (row l j) 2) (cc (row l j) 3) (cc (row l j) 4) (cc (row l j) 5) (cc (row l j) 6) (cc (row l j) 8) /\ smalls (cc (row l j) 9) /\ 0 <= (cc (row l j) 10).I /\ (cc (row l j) 10).I <= 1099511627776
def exGood (l : Dv) : Prop := gAll (qex l) l.T.length /\ l.T.length <= 80
def qfi (l : Dv) (j : Nat) : Prop := (cc (row l j) 9).T.length <= 20 /\ 0 <= (cc (row l j) 10).I /\ (cc (row l j) 10).I <= 1099511627776
def exFine (l : Dv) : Prop := gAll (qfi l) l.T.length /\ l.T.length <= 400
theorem fine_of {l : Dv} (h : exGood l) : exFine l := ⟨fun j hj => by
  obtain ⟨_, _, _, e, f, g⟩ := h.1 j hj
  exact ⟨e.2, f, g⟩, Nat.le_trans h.2 (by decide)⟩
def atV (m : Dv) (k : ByteArray) : Int := if 0 <= mfindI .s (.s k) m.T then (cc (row m (mfindI .s (.s k) m.T).toNat) 1).I else 0
def goneP (m : Dv) (now ttl : Int) (k : ByteArray) : Prop := 0 < ttl /\ ttl < now - atV m k
def askP (only : Dv) (all : Bool) (k : ByteArray) : Prop := all = true \/ k.toList = only.S.toList
def outP (l m : Dv) (now ttl : Int) (only : Dv) (all : Bool) (j : Nat) : Prop := askP only all (kS (row l j)) /\ ¬ goneP m now ttl (kS (row l j))
noncomputable def alIx (l m : Dv) (now ttl : Int) (only : Dv) (all : Bool) (n : Nat) : List Nat := (List.range n).filter fun j => dec (outP l m now ttl only all j)
noncomputable def alOutT (l m : Dv) (now ttl : Int) (only : Dv) (all : Bool) : List Row := (alIx l m now ttl only all l.T.length).map (row l)
noncomputable def alST (l m : Dv) (now ttl : Int) (only : Dv) (all : Bool) : Nat -> List Row
  | 0 => l.T
  | n + 1 => if dec (askP only all (kS (row l n)) /\ goneP m now ttl (kS (row l n))) = true then withoutT (.t (alST l m now ttl only all n)) (kS (row l n)) else alST l m now ttl only all n
def timesOk (m : Dv) : Prop := ∀ r ∈ m.T, 0 <= (cc r 1).I /\ (cc r 1).I <= 1125899906842624
def repsT (l : Dv) : Nat -> List Row
  | 0 => []
  | n + 1 => withT (.t (repsT l n)) (keyB (cc (row l n) 0).S (cc (row l n) 1).S) (eight (row l n))
def qb (l : Dv) (j : Nat) : Prop := (cc (row l j) 6).B = false
def atT (ks m now : Dv) : Nat -> List Row
  | 0 => m.T
  | n + 1 => mput .s (atT ks m now n) [cc (row ks n) 0, now]
structure Sp where
  now : Int
  S : List Row
  M : List Row
def opObj (p : Row) : Row := [cc p 1, cc p 2, cc p 3, cc p 4, cc p 5, cc p 6, cc p 7, cc p 8]
def opKey (p : Row) : ByteArray := keyB (cc p 1).S (cc p 2).S
def ansRow (err : Int) (ok : Bool) (objs keys : List Row) : Row := [.i err, .b ok, .t objs, .t keys, .s ⟨[].toArray⟩, .t []]
noncomputable def spStep (ttl : Int) (p : Row) (s : Sp) : Sp × Row :=
  if ((cc p 0).I = 1 \/ (cc p 0).I = 2 \/ (cc p 0).I = 4) /\ (cc p 7).B = true then (s, ansRow 1 false [] [])
  else if (cc p 0).I = 1 then (⟨s.now, withT (.t s.S) (opKey p) (opObj p), mput .s s.M [.s (opKey p), .i s.now]⟩, ansRow 0 false [] [])
  else if (cc p 0).I = 2 then (⟨s.now, withoutT (.t s.S) (opKey p), s.M⟩, ansRow 0 false [] [])
  else if (cc p 0).I = 3 then
    (if dec (gAll (qb (cc p 9)) (cc p 9).T.length) = true then (⟨s.now, repsT (cc p 9) (cc p 9).T.length, atT (.t ((repsT (cc p 9) (cc p 9).T.length).map keyRow)) (.t s.M) (.i s.now) (repsT (cc p 9) (cc p 9).T.length).length⟩, ansRow 0 false [] [])
    else (s, ansRow 1 false [] []))
  else if (cc p 0).I = 4 then (⟨s.now, alST (.t s.S) (.t s.M) s.now ttl (.s (opKey p)) false s.S.length, s.M⟩, ansRow 0 (decide (0 < (alOutT (.t s.S) (.t s.M) s.now ttl (.s (opKey p)) false).length)) (alOutT (.t s.S) (.t s.M) s.now ttl (.s (opKey p)) false) [])
  else if (cc p 0).I = 5 then (⟨s.now, alST (.t s.S) (.t s.M) s.now ttl (.s ⟨[].toArray⟩) true s.S.length, s.M⟩, ansRow 0 false (alOutT (.t s.S) (.t s.M) s.now ttl (.s ⟨[].toArray⟩) true) [])
  else if (cc p 0).I = 6 then (s, ansRow 0 false [] (s.S.map keyRow))
  else if (cc p 0).I = 7 then (⟨s.now + (cc p 10).I, s.S, s.M⟩, ansRow 0 false [] [])
  else (s, ansRow 0 false [] [])
noncomputable def spSt (ops : Dv) (ttl : Int) : Nat -> Sp
  | 0 => ⟨0, [], []⟩
  | n + 1 => (spStep ttl (row ops n) (spSt ops ttl n)).1
noncomputable def spAnsT (ops : Dv) (ttl : Int) : List Row := (List.range ops.T.length).map fun n => (spStep ttl (row ops n) (spSt ops ttl n)).2
noncomputable def objUF (c : Nat) (d : Dv) : Dv :=
  match c with
  | 100 => .s (keyB (ar d 0).S (ar d 1).S)
  | 101 => .t ((ar d 0).T.map inRow)
  | 102 => .t ((ar d 0).T.map outRow)
  | 103 => .t ((ar d 0).T.map keyRow)
  | 104 => .i (atN (ar d 0) (ar d 1).S : Nat)
  | 105 => .b (isAt (ar d 0) (ar d 1).S)
  | 106 => .t (sortT (ar d 0).T)
  | 107 => .t (withT (ar d 0) (keyB (ar d 1).S (ar d 2).S) [ar d 1, ar d 2, ar d 3, ar d 4, ar d 5, ar d 6, ar d 7, ar d 8])
  | 108 => .t (withoutT (ar d 0) (ar d 1).S)
  | 110 => .b (dec (okR (ar d 0) (ar d 1) (ar d 2)))
  | 111 => .b (dec (okRows (ar d 0).T))
  | 112 => .b (dec (Rising (ar d 0).T))
  | 113 => .b (dec (Rising ((ar d 0).T.map outRow) /\ okRows ((ar d 0).T.map outRow)))
  | 121 => .i (dn (ar d 0).I (ar d 1).I (ar d 2).I.toNat)
  | 122 => .i (up (ar d 0).I (ar d 1).I (ar d 2).I.toNat)
  | 123 => .i (20 * 2 ^ (ar d 0).I.toNat)
  | 130 => .i (ixN (ar d 0) (ar d 1) (ar d 2) : Nat)
  | 131 => .b (decide (ixN (ar d 0) (ar d 1) (ar d 2) < (ar d 0).T.length))
  | 132 => .b (dec (∀ r ∈ (ar d 0).T, stGood r))
  | 133 => .b (dec (¬ gAll (q7 (ar d 0)) (ar d 0).T.length))
  | 134 => .i (gN (q7 (ar d 0)) (ar d 0).T.length : Nat)
  | 135 => .b (dec (fits6 (ar d 0)))
  | 136 => .b (dec (fit5 (ar d 0) (ar d 1) (ar d 2) (ar d 3) (ar d 4) (ar d 5)))
  | 137 => .b (dec (¬ gAll (q5 (ar d 0)) (ar d 0).T.length))
  | 138 => .i (gN (q5 (ar d 0)) (ar d 0).T.length : Nat)
  | 139 => .b (dec (fits18 (ar d 0)))
  | 140 => .b (dec (¬ gAll (q35 (ar d 0)) (ar d 0).T.length))
  | 141 => .i (gN (q35 (ar d 0)) (ar d 0).T.length : Nat)
  | 142 => .b (dec (fits35 (ar d 0)))
  | 143 => .b (dec (¬ gAll (qd (ar d 0) (ar d 1)) (ar d 0).T.length))
  | 144 => .i (gN (qd (ar d 0) (ar d 1)) (ar d 0).T.length : Nat)
  | 145 => .b (dec (¬ gAll (qp (ar d 0)) (ar d 0).T.length))
  | 146 => .i (gN (qp (ar d 0)) (ar d 0).T.length : Nat)
  | 147 => .b (dec (pairsOk (ar d 0)))
  | 148 => .b (dec (¬ gAll (qs (ar d 0)) (ar d 0).S.size))
  | 149 => .i (gN (qs (ar d 0)) (ar d 0).S.size : Nat)
  | 150 => .b (dec (small (ar d 0) (ar d 1) (ar d 2) (ar d 3) (ar d 4) (ar d 5) (ar d 7)))
  | 151 => .b (dec (¬ gAll (qsm (ar d 0)) (ar d 0).T.length))
  | 152 => .i (gN (qsm (ar d 0)) (ar d 0).T.length : Nat)
  | 153 => .b (dec (smalls (ar d 0)))
  | 154 => .b (dec (¬ gAll (qex (ar d 0)) (ar d 0).T.length))
  | 155 => .i (gN (qex (ar d 0)) (ar d 0).T.length : Nat)
  | 156 => .b (dec (exGood (ar d 0)))
  | 160 => .t (alOutT (ar d 0) (ar d 1) (ar d 2).I (ar d 3).I (ar d 4) (ar d 5).B)
  | 161 => .i ((alIx (ar d 0) (ar d 1) (ar d 2).I (ar d 3).I (ar d 4) (ar d 5).B (ar d 6).I.toNat).length : Nat)
  | 162 => .t (alST (ar d 0) (ar d 1) (ar d 2).I (ar d 3).I (ar d 4) (ar d 5).B (ar d 6).I.toNat)
  | 163 => .t (alST (ar d 0) (ar d 1) (ar d 2).I (ar d 3).I (ar d 4) (ar d 5).B (ar d 0).T.length)
  | 164 => .b (dec (timesOk (ar d 0)))
  | 165 => .t (repsT (ar d 0) (ar d 1).I.toNat)
  | 166 => .b (dec (¬ gAll (qb (ar d 0)) (ar d 0).T.length))
  | 167 => .i (gN (qb (ar d 0)) (ar d 0).T.length : Nat)
  | 168 => .t (repsT (ar d 0) (ar d 0).T.length)
  | 169 => .t (atT (ar d 0) (ar d 1) (ar d 2) (ar d 3).I.toNat)
  | 170 => .i (spSt (ar d 0) (ar d 1).I (ar d 2).I.toNat).now
  | 171 => .t (spSt (ar d 0) (ar d 1).I (ar d 2).I.toNat).S
  | 172 => .t (spSt (ar d 0) (ar d 1).I (ar d 2).I.toNat).M
  | 173 => .t (spAnsT (ar d 0) (ar d 1).I)
  | 174 => .b (dec (exFine (ar d 0)))
  | _ => .i 0
def OU (o : Env) : Prop := ∀ c d, 100 <= c -> c < 200 -> o.uf c d = objUF c d
theorem OU.of {o : Env} (h : ∀ c d, 100 <= c -> c < 200 -> o.uf c d = objUF c d) : OU o := h
theorem OU.like {o o' : Env} (h : OU o) (e : o'.uf = o.uf) : OU o' := fun c d h1 h2 => by rw [e]; exact h c d h1 h2
section
variable {o : Env} (h : OU o) (d : Dv)
include h
theorem OU.u174 : o.uf 174 d = .b (dec (exFine (ar d 0))) := h 174 d (by decide) (by decide)
theorem OU.u170 : o.uf 170 d = .i (spSt (ar d 0) (ar d 1).I (ar d 2).I.toNat).now := h 170 d (by decide) (by decide)
theorem OU.u172 : o.uf 172 d = .t (spSt (ar d 0) (ar d 1).I (ar d 2).I.toNat).M := h 172 d (by decide) (by decide)
theorem OU.u173 : o.uf 173 d = .t (spAnsT (ar d 0) (ar d 1).I) := h 173 d (by decide) (by decide)
theorem OU.u130 : o.uf 130 d = .i (ixN (ar d 0) (ar d 1) (ar d 2) : Nat) := h 130 d (by decide) (by decide)
theorem OU.u131 : o.uf 131 d = .b (decide (ixN (ar d 0) (ar d 1) (ar d 2) < (ar d 0).T.length)) := h 131 d (by decide) (by decide)
theorem OU.u132 : o.uf 132 d = .b (dec (∀ r ∈ (ar d 0).T, stGood r)) := h 132 d (by decide) (by decide)
theorem OU.u133 : o.uf 133 d = .b (dec (¬ gAll (q7 (ar d 0)) (ar d 0).T.length)) := h 133 d (by decide) (by decide)
theorem OU.u134 : o.uf 134 d = .i (gN (q7 (ar d 0)) (ar d 0).T.length : Nat) := h 134 d (by decide) (by decide)
theorem OU.u135 : o.uf 135 d = .b (dec (fits6 (ar d 0))) := h 135 d (by decide) (by decide)
theorem OU.u136 : o.uf 136 d = .b (dec (fit5 (ar d 0) (ar d 1) (ar d 2) (ar d 3) (ar d 4) (ar d 5))) := h 136 d (by decide) (by decide)
theorem OU.u137 : o.uf 137 d = .b (dec (¬ gAll (q5 (ar d 0)) (ar d 0).T.length)) := h 137 d (by decide) (by decide)
theorem OU.u138 : o.uf 138 d = .i (gN (q5 (ar d 0)) (ar d 0).T.length : Nat) := h 138 d (by decide) (by decide)
theorem OU.u139 : o.uf 139 d = .b (dec (fits18 (ar d 0))) := h 139 d (by decide) (by decide)
theorem OU.u140 : o.uf 140 d = .b (dec (¬ gAll (q35 (ar d 0)) (ar d 0).T.length)) := h 140 d (by decide) (by decide)
theorem OU.u141 : o.uf 141 d = .i (gN (q35 (ar d 0)) (ar d 0).T.length : Nat) := h 141 d (by decide) (by decide)
theorem OU.u142 : o.uf 142 d = .b (dec (fits35 (ar d 0))) := h 142 d (by decide) (by decide)
theorem OU.u143 : o.uf 143 d = .b (dec (¬ gAll (qd (ar d 0) (ar d 1)) (ar d 0).T.length)) := h 143 d (by decide) (by decide)
theorem OU.u144 : o.uf 144 d = .i (gN (qd (ar d 0) (ar d 1)) (ar d 0).T.length : Nat) := h 144 d (by decide) (by decide)
theorem OU.u145 : o.uf 145 d = .b (dec (¬ gAll (qp (ar d 0)) (ar d 0).T.length)) := h 145 d (by decide) (by decide)
theorem OU.u146 : o.uf 146 d = .i (gN (qp (ar d 0)) (ar d 0).T.length : Nat) := h 146 d (by decide) (by decide)
theorem OU.u147 : o.uf 147 d = .b (dec (pairsOk (ar d 0))) := h 147 d (by decide) (by decide)
theorem OU.u148 : o.uf 148 d = .b (dec (¬ gAll (qs (ar d 0)) (ar d 0).S.size)) := h 148 d (by decide) (by decide)
theorem OU.u149 : o.uf 149 d = .i (gN (qs (ar d 0)) (ar d 0).S.size : Nat) := h 149 d (by decide) (by decide)
theorem OU.u150 : o.uf 150 d = .b (dec (small (ar d 0) (ar d 1) (ar d 2) (ar d 3) (ar d 4) (ar d 5) (ar d 7))) := h 150 d (by decide) (by decide)
theorem OU.u151 : o.uf 151 d = .b (dec (¬ gAll (qsm (ar d 0)) (ar d 0).T.length)) := h 151 d (by decide) (by decide)
theorem OU.u152 : o.uf 152 d = .i (gN (qsm (ar d 0)) (ar d 0).T.length : Nat) := h 152 d (by decide) (by decide)
theorem OU.u153 : o.uf 153 d = .b (dec (smalls (ar d 0))) := h 153 d (by decide) (by decide)
theorem OU.u154 : o.uf 154 d = .b (dec (¬ gAll (qex (ar d 0)) (ar d 0).T.length)) := h 154 d (by decide) (by decide)
theorem OU.u155 : o.uf 155 d = .i (gN (qex (ar d 0)) (ar d 0).T.length : Nat) := h 155 d (by decide) (by decide)
theorem OU.u156 : o.uf 156 d = .b (dec (exGood (ar d 0))) := h 156 d (by decide) (by decide)
theorem OU.u100 : o.uf 100 d = .s (keyB (ar d 0).S (ar d 1).S) := h 100 d (by decide) (by decide)
theorem OU.u101 : o.uf 101 d = .t ((ar d 0).T.map inRow) := h 101 d (by decide) (by decide)
theorem OU.u102 : o.uf 102 d = .t ((ar d 0).T.map outRow) := h 102 d (by decide) (by decide)
theorem OU.u104 : o.uf 104 d = .i (atN (ar d 0) (ar d 1).S : Nat) := h 104 d (by decide) (by decide)
theorem OU.u105 : o.uf 105 d = .b (isAt (ar d 0) (ar d 1).S) := h 105 d (by decide) (by decide)
theorem OU.u106 : o.uf 106 d = .t (sortT (ar d 0).T) := h 106 d (by decide) (by decide)
theorem OU.u110 : o.uf 110 d = .b (dec (okR (ar d 0) (ar d 1) (ar d 2))) := h 110 d (by decide) (by decide)
theorem OU.u111 : o.uf 111 d = .b (dec (okRows (ar d 0).T)) := h 111 d (by decide) (by decide)
theorem OU.u112 : o.uf 112 d = .b (dec (Rising (ar d 0).T)) := h 112 d (by decide) (by decide)
theorem OU.u113 : o.uf 113 d = .b (dec (Rising ((ar d 0).T.map outRow) /\ okRows ((ar d 0).T.map outRow))) := h 113 d (by decide) (by decide)
theorem OU.u121 : o.uf 121 d = .i (dn (ar d 0).I (ar d 1).I (ar d 2).I.toNat) := h 121 d (by decide) (by decide)
theorem OU.u122 : o.uf 122 d = .i (up (ar d 0).I (ar d 1).I (ar d 2).I.toNat) := h 122 d (by decide) (by decide)
theorem OU.u123 : o.uf 123 d = .i (20 * 2 ^ (ar d 0).I.toNat) := h 123 d (by decide) (by decide)
end
theorem bl_eq (a b : ByteArray) : bytesLt a b = decide (a.toList < b.toList) := bytesLess_eq _ _
theorem atN_le (l : Dv) (k : ByteArray) : atN l k <= l.T.length := stop_le
end Go.Proofs.YtdlppkhmmclipaaGreat.sxObj
namespace Go.Proofs.YtdlppkhmmclipaaGreat.sxObj
open Go.Sx
set_option linter.unusedVariables false
abbrev ob0 : E := .o2 .lt (.v 2100) (.o1 .tlen (.v 7104))
abbrev ob1 : Facts := [(ob0, true)]
abbrev ob2 : Facts := [(ob0, false)]
def objIn0L : List (Facts × List Ob) :=
  [(ob1,
    [(.e (.o2 .seq (.o2 (.cell 0) (.v 7104) (.v 2100)) (.o2 (.cell 0) (.v 7104) (.il 0)))), (.e (.o2 .seq (.o2 (.cell 1) (.v 7104) (.v 2100)) (.o2 (.cell 1) (.v 7104) (.il 0))))]),
   (ob2,
    [(.t (.il 0) (.v 7104))])]
def objIn1L : List (Facts × List Ob) :=
  [(ob1,
    []),
   (ob2,
    [(.t (.o2 .ttake (.v 7104) (.v 2100)) (.v 7104))])]
def objInFL : List (Facts × List Ob) :=
  [([],
    [(.e (.o2 .le (.o1 .tlen (.v 7114)) (.il 2147483647)))])]
abbrev ob3 : E := .o2 .lt (.v 2101) (.o1 .tlen (.v 7120))
abbrev ob4 : Facts := [(ob3, true)]
abbrev ob5 : E := .o2 .cel (.o2 (.cell 0) (.v 7120) (.v 2101)) (.o2 .cel (.o2 (.cell 1) (.v 7120) (.v 2101)) (.o2 .cel (.o2 (.cell 2) (.v 7120) (.v 2101)) (.o2 .cel (.o2 (.cell 3) (.v 7120) (.v 2101)) (.o2 .cel (.o2 (.cell 4) (.v 7120) (.v 2101)) (.o2 .cel (.o2 (.cell 5) (.v 7120) (.v 2101)) (.o2 .cel (.o2 (.cell 6) (.v 7120) (.v 2101)) (.o2 .cel (.o2 (.cell 7) (.v 7120) (.v 2101)) (.o2 .cel (.il 0) (.il 0)))))))))
abbrev ob6 : E := .uf 101 (.o2 .cel (.v 7120) (.il 0))
abbrev ob7 : Facts := [(ob3, false)]
def objsIn0L : List (Facts × List Ob) :=
  [(ob4,
    [(.e (.uf 110 (.o2 .cel (.o2 (.cell 0) (.v 7120) (.v 2101)) (.o2 .cel (.o2 (.cell 1) (.v 7120) (.v 2101)) (.o2 .cel (.o2 (.cell 4) (.v 7120) (.v 2101)) (.il 0)))))), (.t ob5 (.o2 (.cell 0) ob6 (.il 0)))]),
   (ob7,
    [(.t (.il 0) ob6)])]
def objsIn1L : List (Facts × List Ob) :=
  [(ob4,
    [(.e (.uf 110 (.o2 .cel (.o2 (.cell 0) (.v 7120) (.v 2101)) (.o2 .cel (.o2 (.cell 1) (.v 7120) (.v 2101)) (.o2 .cel (.o2 (.cell 4) (.v 7120) (.v 2101)) (.il 0)))))), (.t ob5 (.o2 (.cell 0) ob6 (.v 2101)))]),
   (ob7,
    [(.e (.o2 .le (.v 2101) (.o1 .tlen ob6))), (.t (.o2 .ttake ob6 (.v 2101)) ob6)])]
def objsInFL : List (Facts × List Ob) :=
  [([],
    [])]
abbrev ob8 : E := .o2 .lt (.v 2102) (.o1 .tlen (.o2 (.cell 4) (.v 7130) (.v 7131)))
abbrev ob9 : Facts := [(ob8, true)]
abbrev ob10 : Facts := [(ob8, false)]
def objOut0L : List (Facts × List Ob) :=
  [(ob9,
    [(.e (.o2 .seq (.o2 (.cell 0) (.o2 (.cell 4) (.v 7130) (.v 7131)) (.v 2102)) (.o2 (.cell 0) (.o2 (.cell 4) (.v 7130) (.v 7131)) (.il 0)))), (.e (.o2 .seq (.o2 (.cell 1) (.o2 (.cell 4) (.v 7130) (.v 7131)) (.v 2102)) (.o2 (.cell 1) (.o2 (.cell 4) (.v 7130) (.v 7131)) (.il 0))))]),
   (ob10,
    [(.t (.il 0) (.o2 (.cell 4) (.v 7130) (.v 7131)))])]
def objOut1L : List (Facts × List Ob) :=
  [(ob9,
    []),
   (ob10,
    [(.t (.o2 .ttake (.o2 (.cell 4) (.v 7130) (.v 7131)) (.v 2102)) (.o2 (.cell 4) (.v 7130) (.v 7131)))])]
def objOutFL : List (Facts × List Ob) :=
  [([],
    [(.e (.o2 .le (.o1 .tlen (.o2 (.cell 4) (.v 7135) (.v 7136))) (.il 2147483647)))])]
abbrev ob11 : E := .o1 .size (.o2 (.cell 0) (.v 7140) (.v 7141))
abbrev ob12 : E := .o2 .lt (.il 0) ob11
abbrev ob13 : Facts := [((.o2 (.cell 6) (.v 7140) (.v 7141)), false)]
abbrev ob14 : E := .o2 .cat (.o2 (.cell 0) (.v 7140) (.v 7141)) (.sl [47])
abbrev ob15 : E := .uf 100 (.o2 .cel (.o2 (.cell 0) (.v 7140) (.v 7141)) (.o2 .cel (.o2 (.cell 1) (.v 7140) (.v 7141)) (.il 0)))
def metaFL : List (Facts × List Ob) :=
  [([((.o2 (.cell 6) (.v 7140) (.v 7141)), true)],
    []),
   ((((ob12, true) : E × Bool) :: ob13),
    [(.e (.o2 .le (.o2 .add (.o1 .size ob14) (.o1 .size (.o2 (.cell 1) (.v 7140) (.v 7141)))) (.il 9223372036854775807))), (.e (.o2 .le (.o2 .add ob11 (.il 1)) (.il 9223372036854775807))), (.e (.o2 .seq (.o2 .cat ob14 (.o2 (.cell 1) (.v 7140) (.v 7141))) ob15))]),
   ((((ob12, false) : E × Bool) :: ob13),
    [(.e (.o2 .seq (.o2 (.cell 1) (.v 7140) (.v 7141)) ob15))])]
def keyOfFL : List (Facts × List Ob) :=
  [([((.v 7156), true)],
    []),
   ([((.v 7156), false)],
    [])]
abbrev ob16 : E := .uf 100 (.o2 .cel (.v 7160) (.o2 .cel (.v 7161) (.il 0)))
def objKeyFL : List (Facts × List Ob) :=
  [([((.v 7166), true)],
    []),
   ([((.o2 .seq (.v 7160) (.sl [])), true), ((.v 7166), false)],
    [(.e (.o2 .seq (.v 7161) ob16))]),
   ([((.o2 .seq (.v 7160) (.sl [])), false), ((.v 7166), false)],
    [(.e (.o2 .le (.o2 .add (.o1 .size (.o2 .cat (.v 7160) (.sl [47]))) (.o1 .size (.v 7161))) (.il 9223372036854775807))), (.e (.o2 .le (.o2 .add (.o1 .size (.v 7160)) (.il 1)) (.il 9223372036854775807))), (.e (.o2 .seq (.o2 .cat (.o2 .cat (.v 7160) (.sl [47])) (.v 7161)) ob16))])]
abbrev ob17 : E := .o2 .lt (.v 2103) (.o1 .tlen (.v 7170))
abbrev ob18 : Facts := [(ob17, true)]
abbrev ob19 : Facts := (((.o2 (.cell 6) (.v 7170) (.v 2103)), true) : E × Bool) :: ob18
abbrev ob20 : E := .o2 .cel (.v 7170) (.o2 .cel (.v 7171) (.il 0))
abbrev ob21 : List Ob := [(.e (.o2 .lt (.v 2103) (.uf 104 ob20))), (.e (.uf 110 (.o2 .cel (.o2 (.cell 0) (.v 7170) (.v 2103)) (.o2 .cel (.o2 (.cell 1) (.v 7170) (.v 2103)) (.o2 .cel (.o2 (.cell 4) (.v 7170) (.v 2103)) (.il 0))))))]
abbrev ob22 : E := .o2 .lt (.uf 104 ob20) (.o1 .tlen (.v 7170))
abbrev ob23 : E := .uf 100 (.o2 .cel (.o2 (.cell 0) (.v 7170) (.v 2103)) (.o2 .cel (.o2 (.cell 1) (.v 7170) (.v 2103)) (.il 0)))
abbrev ob24 : E := .o2 .slt ob23 (.v 7171)
abbrev ob25 : Facts := (((.o2 (.cell 6) (.v 7170) (.v 2103)), false) : E × Bool) :: ob18
def objsAtL : List (Facts × List Ob) :=
  [(((((.o2 .slt (.sl []) (.v 7171)), true) : E × Bool) :: ob19),
    ob21),
   (((((.o2 .slt (.sl []) (.v 7171)), false) : E × Bool) :: ob19),
    [(.e ob22), (.e (.uf 110 (.o2 .cel (.o2 (.cell 0) (.v 7170) (.v 2103)) (.o2 .cel (.o2 (.cell 1) (.v 7170) (.v 2103)) (.o2 .cel (.o2 (.cell 4) (.v 7170) (.v 2103)) (.il 0)))))), (.e (.o2 .ieq (.v 2103) (.uf 104 ob20))), (.e (.o2 .beq (.o2 .seq (.sl []) (.v 7171)) (.uf 105 ob20)))]),
   ((((ob24, true) : E × Bool) :: ob25),
    ob21),
   ((((ob24, false) : E × Bool) :: ob25),
    [(.e ob22), (.e (.uf 110 (.o2 .cel (.o2 (.cell 0) (.v 7170) (.v 2103)) (.o2 .cel (.o2 (.cell 1) (.v 7170) (.v 2103)) (.o2 .cel (.o2 (.cell 4) (.v 7170) (.v 2103)) (.il 0)))))), (.e (.o2 .ieq (.v 2103) (.uf 104 ob20))), (.e (.o2 .beq (.o2 .seq ob23 (.v 7171)) (.uf 105 ob20)))]),
   ([(ob17, false)],
    [(.e (.o1 .not ob22))])]
abbrev ob26 : E := .o2 .cel (.v 7173) (.o2 .cel (.v 7174) (.il 0))
abbrev ob27 : E := .o2 .lt (.uf 104 ob26) (.o1 .tlen (.v 7173))
def objsAtFL : List (Facts × List Ob) :=
  [([(ob27, true)],
    []),
   ([(ob27, false)],
    [(.e (.o2 .ieq (.o1 .tlen (.v 7173)) (.uf 104 ob26))), (.e (.o2 .beq (.bl false) (.uf 105 ob26)))])]
abbrev ob71 : E := .o2 .ieq (.o1 .tlen (.v 7198)) (.il 0)
abbrev ob72 : E := .uf 106 (.o2 .cel (.v 7198) (.il 0))
def keysFL : List (Facts × List Ob) :=
  [([(ob71, true)],
    [(.t (.il 0) ob72)]),
   ([(ob71, false)],
    [(.e (.o2 .le (.o1 .tlen (.v 7198)) (.o1 .tlen ob72))), (.t (.o2 .ttake ob72 (.o1 .tlen (.v 7198))) ob72)])]
end Go.Proofs.YtdlppkhmmclipaaGreat.sxObj
namespace Go.Proofs.YtdlppkhmmclipaaGreat.sxObj
open Go.Sx Go.RowKit Go.Proofs.YtdlppkhmmclipaaGreat
set_option linter.unusedVariables false
set_option linter.unusedSimpArgs false
set_option maxRecDepth 100000
theorem okRow_at {l : Dv} (h : okRows l.T) {n : Nat} (hn : n < l.T.length) : okR (cc (row l n) 0) (cc (row l n) 1) (cc (row l n) 4) := h _ (row_mem hn)
theorem map_take {f : Row -> Row} {l : Dv} {r : Nat} (h : ¬ (r : Int) < (l.T.length : Int)) : (l.T.map f).take r = l.T.map f := take_all (by rw [List.length_map]; omega)
theorem nil_of {l : List Row} (h : ¬ (0 : Int) < (l.length : Int)) : l = [] := List.length_eq_zero_iff.1 (by omega)
section
variable {o : Env}
theorem objIn0_all (hr : o.v 2100 = .i (0 : Nat)) : AllL o objIn0L := by
  simp only [objIn0L, allL_cons, allL_nil, and_true]
  and_intros
  all_goals intro h
  all_goals simp only [SS, implies_true, hr] at h ⊢
  exact (nil_of (by simpa using h)).symm
theorem objIn1_all {r : Nat} (hr : o.v 2100 = .i r) : AllL o objIn1L := by
  simp only [objIn1L, allL_cons, allL_nil, and_true]
  and_intros
  all_goals intro h
  all_goals simp only [SS, implies_true, hr] at h ⊢
  exact take_all (by omega)
theorem objInF_all (hu : OU o) (hent : objInF.ent.Hold o) : AllL o objInFL := by
  simp only [objInFL, allL_cons, allL_nil, and_true]; intro _; simp only [objInF, okO, vE, pk, List.foldr, Nat.reduceAdd, SS, implies_true, hu.u110] at hent ⊢; have := (dec_iff.1 hent).2.2; omega
theorem objsIn0_all (hu : OU o) (hr : o.v 2101 = .i (0 : Nat)) (hent : (objsInY.ent 0).Hold o) : AllL o objsIn0L := by
  simp only [objsInY, mapT, okL, lenE, pk, List.foldr, SS, implies_true, hu.u111] at hent; have hok := dec_iff.1 hent.1; simp only [objsIn0L, allL_cons, allL_nil, and_true]
  and_intros
  all_goals intro h
  all_goals simp only [SS, implies_true, hr, hu.u110, hu.u101] at h ⊢
  . have hl : 0 < (o.v 7120).T.length := by omega
    refine ⟨dec_iff.2 (okRow_at hok hl), ?_⟩; rw [row_map (by simpa using hl)]
    rfl
  . have := nil_of (l := (o.v 7120).T) (by simpa using h)
    rw [this]; rfl
theorem objsIn1_all (hu : OU o) {r : Nat} (hr : o.v 2101 = .i r) (hent : (objsInY.ent 0).Hold o) (hle : (r : Int) <= ((lenE (.v 7120)).den o).I) : AllL o objsIn1L := by
  simp only [objsInY, mapT, okL, lenE, pk, List.foldr, SS, implies_true, hu.u111] at hent hle; have hok := dec_iff.1 hent.1; simp only [objsIn1L, allL_cons, allL_nil, and_true]
  and_intros
  all_goals intro h
  all_goals simp only [SS, implies_true, hr, hu.u110, hu.u101] at h ⊢
  . have hl : r < (o.v 7120).T.length := by omega
    refine ⟨dec_iff.2 (okRow_at hok hl), ?_⟩; rw [row_map (by simpa using hl)]
    rfl
  . exact ⟨by rw [List.length_map]; omega, map_take h⟩
theorem objOut0_all (hr : o.v 2102 = .i (0 : Nat)) : AllL o objOut0L := by
  simp only [objOut0L, allL_cons, allL_nil, and_true]
  and_intros
  all_goals intro h
  all_goals simp only [SS, implies_true, hr] at h ⊢
  exact (nil_of (by simpa using h)).symm
theorem objOut1_all {r : Nat} (hr : o.v 2102 = .i r) : AllL o objOut1L := by
  simp only [objOut1L, allL_cons, allL_nil, and_true]
  and_intros
  all_goals intro h
  all_goals simp only [SS, implies_true, hr] at h ⊢
  exact take_all (by omega)
theorem objOutF_all (hu : OU o) (hent : objOutF.ent.Hold o) : AllL o objOutFL := by
  simp only [objOutFL, allL_cons, allL_nil, and_true]; intro _; simp only [objOutF, okO, cE, pk, List.foldr, SS, implies_true, hu.u110] at hent ⊢; have := (dec_iff.1 hent).2.2; omega
theorem metaF_all (hu : OU o) (hent : metaF.ent.Hold o) : AllL o metaFL := by
  simp only [metaF, okO, cE, pk, List.foldr, SS, implies_true, hu.u110] at hent; have hs := dec_iff.1 hent; have h1 := hs.1; have h2 := hs.2.1; have hz : (ByteArray.mk [47].toArray).size = 1 := rfl; simp only [metaFL, allL_cons, allL_nil, and_true]
  and_intros
  all_goals intro h
  all_goals simp only [SS, implies_true, hu.u100, ByteArray.size_append, hz] at h ⊢
  . refine ⟨by omega, by omega, ?_⟩
    unfold keyB; rw [if_neg (by omega)]
  . unfold keyB; rw [if_pos (by omega)]
theorem keyOfF_all : AllL o keyOfFL := by
  simp only [keyOfFL, allL_cons, allL_nil, and_true]
  and_intros
  all_goals intro h
  all_goals simp only [SS, implies_true]
theorem objKeyF_all (hu : OU o) (hent : objKeyF.ent.Hold o) : AllL o objKeyFL := by
  simp only [objKeyF, okO, vE, pk, List.foldr, Nat.reduceAdd, SS, implies_true, hu.u110] at hent; have hs := dec_iff.1 hent; have h1 := hs.1; have h2 := hs.2.1; have hz : (ByteArray.mk [47].toArray).size = 1 := rfl; have he : (ByteArray.mk [].toArray).toList = [] := by rw [toList_data]
  have h0 : ∀ b : ByteArray, b.size = 0 ↔ b.toList = [] := fun b => by
    rw [toList_data]; show b.data.size = 0 ↔ _; rw [<- Array.length_toList, List.length_eq_zero_iff]
  simp only [objKeyFL, allL_cons, allL_nil, and_true]
  and_intros
  all_goals intro h
  all_goals simp only [SS, implies_true, hu.u100, ByteArray.size_append, hz, he, <- h0] at h ⊢
  . unfold keyB; rw [if_pos h.1]
  . refine ⟨by omega, by omega, ?_⟩
    unfold keyB; rw [if_neg fun e => h.1 ((h0 _).1 e)]
theorem atN_stop {l : Dv} {k : ByteArray} {r : Nat} (hr : r <= atN l k) (hl : r < l.T.length) (h : bytesLt (kS (row l r)) k = true) : r < atN l k := by
  refine stop_no hr hl ?_; unfold atB; rw [h]; rfl
theorem atN_here {l : Dv} {k : ByteArray} {r : Nat} (hr : r <= atN l k) (hl : r < l.T.length) (h : bytesLt (kS (row l r)) k = false) : r = atN l k /\ atN l k < l.T.length := by
  have hb : atB l k r = true := by unfold atB; rw [h]; rfl
  have hs := stop_yes hr hl hb; refine ⟨?_, hs⟩; rcases Nat.lt_or_ge r (atN l k) with hlt | hge
  . have : atB l k r = false := stop_before (n := l.T.length) hlt; rw [hb] at this; cases this
  . omega
theorem isAt_of {l : Dv} {k : ByteArray} (h : atN l k < l.T.length) : isAt l k = ((kS (row l (atN l k))).toList == k.toList) := by
  unfold isAt; rw [decide_eq_true h]; rfl
theorem kS_bad {r : Row} (h : (cc r 6).B = true) : kS r = ⟨#[]⟩ := by unfold kS bad; rw [if_pos h]
theorem kS_good {r : Row} (h : (cc r 6).B = false) : kS r = keyB (cc r 0).S (cc r 1).S := by unfold kS bad; rw [if_neg (by rw [h]; simp)]; rfl
section
variable {o : Env}
theorem objsAt_all (hu : OU o) {r : Nat} (hr : o.v 2103 = .i r) (hent : (objsAtY.ent 0).Hold o) (hle : (r : Int) <= ((E.uf 104 atA).den o).I) : AllL o objsAtL := by
  simp only [objsAtY, okL, lenE, atA, pk, List.foldr, SS, implies_true, hu.u111, hu.u104] at hent hle; have hok := dec_iff.1 hent.1; have hmax := hent.2; have hle : r <= atN (o.v 7170) (o.v 7171).S := by omega
  have hlen := atN_le (o.v 7170) (o.v 7171).S; have he : (ByteArray.mk [].toArray) = ⟨#[]⟩ := rfl; simp only [objsAtL, allL_cons, allL_nil, and_true]
  and_intros
  all_goals intro h
  all_goals simp only [SS, implies_true, hr, hu.u100, hu.u104, hu.u105, hu.u110, he] at h ⊢
  . have hl : r < (o.v 7170).T.length := by omega
    have := atN_stop (k := (o.v 7171).S) hle hl (by rw [kS_bad h.2.1]; exact h.1)
    exact ⟨by omega, dec_iff.2 (okRow_at hok hl)⟩
  . have hl : r < (o.v 7170).T.length := by omega
    obtain ⟨h1, h2⟩ := atN_here (k := (o.v 7171).S) hle hl (by rw [kS_bad h.2.1]; exact h.1)
    refine ⟨by omega, dec_iff.2 (okRow_at hok hl), by omega, ?_⟩
    rw [isAt_of h2, <- h1, kS_bad h.2.1]
  . have hl : r < (o.v 7170).T.length := by omega
    have := atN_stop (k := (o.v 7171).S) hle hl (by rw [kS_good h.2.1]; exact h.1)
    exact ⟨by omega, dec_iff.2 (okRow_at hok hl)⟩
  . have hl : r < (o.v 7170).T.length := by omega
    obtain ⟨h1, h2⟩ := atN_here (k := (o.v 7171).S) hle hl (by rw [kS_good h.2.1]; exact h.1)
    refine ⟨by omega, dec_iff.2 (okRow_at hok hl), by omega, ?_⟩
    rw [isAt_of h2, <- h1, kS_good h.2.1]
  . omega
theorem objsAtF_all (hu : OU o) : AllL o objsAtFL := by
  have hlen := atN_le (o.v 7173) (o.v 7174).S; simp only [objsAtFL, allL_cons, allL_nil, and_true]
  and_intros
  all_goals intro h
  all_goals simp only [SS, implies_true, hu.u104, hu.u105] at h ⊢
  refine ⟨by omega, ?_⟩
  unfold isAt; rw [decide_eq_false (by omega)]; rfl
theorem isAt_lt {l : Dv} {k : ByteArray} (h : isAt l k = true) : atN l k < l.T.length := by
  unfold isAt at h; rw [Bool.and_eq_true] at h; exact of_decide_eq_true h.1
theorem keysF_all (hu : OU o) : AllL o keysFL := by
  simp only [keysFL, allL_cons, allL_nil, and_true]
  and_intros
  all_goals intro h
  all_goals simp only [SS, implies_true, hu.u106] at h ⊢
  . have := nil_of (l := (o.v 7198).T) (by omega)
    rw [this]; simp [sortT]
  . exact ⟨by rw [sortT_len]; omega, take_all (by rw [sortT_len]; omega)⟩
end
end
theorem plain : Plain Tryz.prog := plain_of (by kernel_rfl)
theorem mixed : Tryz.prog.follows .mixedOrders = true := by kernel_rfl
theorem m0_of {m : Nat} (h : Nat.beq m 0 = true) : m = 0 := Nat.eq_of_beq_eq_true h
theorem m1_of {m : Nat} (h : Nat.beq m 1 = true) : m = 1 := Nat.eq_of_beq_eq_true h
theorem ar_head (d : Dv) : ar d 0 = d.row.headD (.i 0) := by
  unfold ar cc row Dv.row; cases d.T with
  | nil => rfl
  | cons a l => cases a <;> rfl
section
variable {o : Env}
theorem nn_len {l : E} : ∀ e : Env, 0 <= ((lenE l).den e).I := fun e => by
  show (0 : Int) <= (((l.den e).T.length : Nat) : Int); omega
theorem objInY_c : Cnt2 Tryz.prog objInY (lenE (.v 7104)) objIn0L objIn1L := ⟨by kernel_rfl, by kernel_rfl, by kernel_rfl, rfl, rfl, by kernel_rfl, rfl, fun m h => m0_of h, fun m h => m1_of h, fun _ => rfl⟩
theorem objInY_ok : LpOk Tryz.prog o fObjIn 3 objInY.lpP :=
  objInY_c.ok plain mixed (fun o _ _ => nn_len o) (fun _ _ _ => extOk_none) (fun o _ _ hr _ => objIn0_all hr) (fun o i _ _ hr _ _ => objIn1_all hr)
theorem objInF_o : objInF.obl Tryz.prog = some objInFL := by kernel_rfl
theorem objInF_ok (hu : OU o) : FnOk Tryz.prog o fObjIn objInF.funP :=
  fun_by plain mixed (D := objInF) objInF_o (fun e A he => ctr_ok (c := ⟨[], [(fObjIn, 3, objInY.lpP)]⟩) (by kernel_rfl) trivial ⟨objInY_ok, trivial⟩ A) (fun e he h => objInF_all (hu.like he) h)
theorem objsInY_c : Cnt2 Tryz.prog objsInY (lenE (.v 7120)) objsIn0L objsIn1L := ⟨by kernel_rfl, by kernel_rfl, by kernel_rfl, rfl, rfl, by kernel_rfl, rfl, fun m h => m0_of h, fun m h => m1_of h, fun _ => rfl⟩
theorem objsInY_ok (hu : OU o) : LpOk Tryz.prog o fObjsIn 3 objsInY.lpP :=
  objsInY_c.ok plain mixed (fun o _ _ => nn_len o) (fun e A he => ctr_ok (c := ⟨[(fObjIn, objInF.funP)], []⟩) (by kernel_rfl) ⟨objInF_ok (hu.like he), trivial⟩ trivial A) (fun e he h hr _ => objsIn0_all (hu.like he) hr h) (fun e i he h hr _ hl => objsIn1_all (hu.like he) hr h hl)
theorem objsInF_o : objsInF.obl Tryz.prog = some objsInFL := by kernel_rfl
theorem objsInF_ok (hu : OU o) : FnOk Tryz.prog o fObjsIn objsInF.funP :=
  fun_by plain mixed (D := objsInF) objsInF_o (fun e A he => ctr_ok (c := ⟨[], [(fObjsIn, 3, objsInY.lpP)]⟩) (by kernel_rfl) trivial ⟨objsInY_ok (hu.like he), trivial⟩ A) (fun e he h => by simp only [objsInFL, allL_cons, allL_nil, and_true]; intro _; simp only [allT_nil])
theorem objOutY_c : Cnt2 Tryz.prog objOutY (lenE (cE x0 i0 4)) objOut0L objOut1L := ⟨by kernel_rfl, by kernel_rfl, by kernel_rfl, rfl, rfl, by kernel_rfl, rfl, fun m h => m0_of h, fun m h => m1_of h, fun _ => rfl⟩
theorem objOutY_ok : LpOk Tryz.prog o fObjOut 9 objOutY.lpP :=
  objOutY_c.ok plain mixed (fun o _ _ => nn_len o) (fun _ _ _ => extOk_none) (fun o _ _ hr _ => objOut0_all hr) (fun o i _ _ hr _ _ => objOut1_all hr)
theorem objOutF_o : objOutF.obl Tryz.prog = some objOutFL := by kernel_rfl
theorem objOutF_ok (hu : OU o) : FnOk Tryz.prog o fObjOut objOutF.funP :=
  fun_by plain mixed (D := objOutF) objOutF_o (fun e A he => ctr_ok (c := ⟨[], [(fObjOut, 9, objOutY.lpP)]⟩) (by kernel_rfl) trivial ⟨objOutY_ok, trivial⟩ A) (fun e he h => objOutF_all (hu.like he) h)
theorem metaF_o : metaF.obl Tryz.prog = some metaFL := by kernel_rfl
theorem metaF_ok (hu : OU o) : FnOk Tryz.prog o fMeta metaF.funP := fun_by plain mixed (D := metaF) metaF_o (fun _ _ _ => extOk_none) (fun e he h => metaF_all (hu.like he) h)
theorem keyOfF_o : keyOfF.obl Tryz.prog = some keyOfFL := by kernel_rfl
theorem keyOfF_ok (hu : OU o) : FnOk Tryz.prog o fKeyOf keyOfF.funP :=
  fun_by plain mixed (D := keyOfF) keyOfF_o (fun e A he => ctr_ok (c := ⟨[(fObjIn, objInF.funP), (fMeta, metaF.funP)], []⟩) (by kernel_rfl) ⟨objInF_ok (hu.like he), metaF_ok (hu.like he), trivial⟩ trivial A) (fun e he h => keyOfF_all)
theorem objKeyF_o : objKeyF.obl Tryz.prog = some objKeyFL := by kernel_rfl
theorem objKeyF_ok (hu : OU o) : FnOk Tryz.prog o fObjKey objKeyF.funP := fun_by plain mixed (D := objKeyF) objKeyF_o (fun _ _ _ => extOk_none) (fun e he h => objKeyF_all (hu.like he) h)
theorem objsAtY_c : Cnt1 Tryz.prog objsAtY (.uf 104 atA) objsAtL := ⟨by kernel_rfl, by kernel_rfl, rfl, by kernel_rfl, rfl, fun m h => m0_of h, fun m h => m0_of h, fun ν => by cases ν with | zero => rfl | succ n => cases n <;> rfl⟩
theorem objsAtY_ok (hu : OU o) : LpOk Tryz.prog o fObjsAt 2 objsAtY.lpP :=
  objsAtY_c.ok plain mixed (fun e he _ => by
    show 0 <= (e.uf 104 (atA.den e)).I; rw [(hu.like he).u104]
    exact Int.natCast_nonneg _) (fun e A he => ctr_ok (c := ⟨[(fObjKey, objKeyF.funP)], []⟩) (by kernel_rfl) ⟨objKeyF_ok (hu.like he), trivial⟩ trivial A) (fun e i he h hr hl => objsAt_all (hu.like he) hr h hl)
theorem objsAtF_o : objsAtF.obl Tryz.prog = some objsAtFL := by kernel_rfl
theorem objsAtF_ok (hu : OU o) : FnOk Tryz.prog o fObjsAt objsAtF.funP :=
  fun_by plain mixed (D := objsAtF) objsAtF_o (fun e A he => ctr_ok (c := ⟨[], [(fObjsAt, 2, objsAtY.lpP)]⟩) (by kernel_rfl) trivial ⟨objsAtY_ok (hu.like he), trivial⟩ A) (fun e he h => objsAtF_all (hu.like he))
theorem sort_o : (sortF fSort).obl Tryz.prog = some [([], [])] := by kernel_rfl
theorem sortC_ok (hu : OU o) : FnOk Tryz.prog o fSort (sortP 106) := sort_ok plain mixed sort_o (fun blk off cap ss w a b c => sort_says blk off cap ss w a b c) (fun d => by rw [hu.u106 d, ar_head])
theorem keysF_o : keysF.obl Tryz.prog = some keysFL := by kernel_rfl
theorem keysF_ok (hu : OU o) : FnOk Tryz.prog o fKeys keysF.funP :=
  fun_by plain mixed (D := keysF) keysF_o (fun e A he => ctr_ok (c := ⟨[(fSort, sortP 106)], []⟩) (by kernel_rfl) ⟨sortC_ok (hu.like he), trivial⟩ trivial A) (fun e he h => keysF_all (hu.like he))
end
end Go.Proofs.YtdlppkhmmclipaaGreat.sxObj

