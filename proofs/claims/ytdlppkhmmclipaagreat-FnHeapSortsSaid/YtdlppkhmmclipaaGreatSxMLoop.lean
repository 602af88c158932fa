/-
  SX, PART 24: from the end of a loop over a few objects to the state around it.
-/
import Derived.Test.YtdlppkhmmclipaaGreatSxMExe
namespace Go.Sx
open Go.RowKit
set_option linter.unusedVariables false
set_option linter.unusedSimpArgs false
def b9 : List (Nat × SV) -> Nat -> Option SV
 | [], _ => none
 | (i, x) :: r, j => cond (Nat.beq i j) (some x) (b9 r j)
def et (ov : List (Nat × SV)) (u : Nat -> Value) : Nat -> Nat -> List SV
 | _, 0 => []
 | j, n + 1 => (match b9 ov j with | some x => x | none => .B1 (u j)) :: et ov u (j + 1) n
theorem sL {env : Env} {ρ : af} {ov : List (Nat × SV)} {u : Nat -> Value} {vs : List Value} (hu : ∀ (j : Nat) (v : Value), vs[j]? = some v -> match b9 ov j with | some x => x.Rel env ρ v | none => u j = v) : ∀ (us : List Value) (j n : Nat),
    (∀ k, vs[j + k]? = us[k]?) -> us.length = n -> SV.aD env ρ (et ov u j n) us
 | [], j, n, _, hn => by subst hn; rfl
 | v :: us, j, n, h, hn => by
   subst hn; have h0 : vs[j]? = some v := by have := h 0; simpa using this
   refine ⟨v, us, rfl, ?_, sL hu us (j + 1) us.length (fun k => ?_) rfl⟩
   ·have := hu j v h0; cases ho : b9 ov j with
    | some x => rw [ho] at this; exact this
    | none => rw [ho] at this; exact this.symm
   ·have := h (k + 1); rw [<- Nat.add_assoc] at this; simpa [Nat.add_right_comm] using this
theorem kW {ov : List (Nat × SV)} {u : Nat -> Value} : ∀ (n j i : Nat), i < n -> (et ov u j n)[i]? = some (match b9 ov (j + i) with | some x => x | none => .B1 (u (j + i)))
 | 0, j, i, h => by omega
 | n + 1, j, 0, h => by simp [et]
 | n + 1, j, i + 1, h => by
   simp only [et, List.getElem?_cons_succ]; rw [kW n (j + 1) i (by omega)]
   rw [show j + 1 + i = j + (i + 1) by omega]
def fR (P : Program) (f : FuncId) (k : Nat) : Code :=
 match P.funcs[f]? with
 | none => .skip
 | some fn =>
   match fn.body with
   | none => .skip
   | some b =>
     match (bK b).find? (fun x => Nat.beq x.1 k) with
     | some x => x.2
     | none => .skip
def allDiff : List Nat -> Bool
 | [] => true
 | n :: r => !(qm n r) && allDiff r
def kF (P : Program) (f : FuncId) : Bool :=
 match P.funcs[f]? with
 | none => false
 | some fn =>
   match fn.body with
   | none => false
   | some b => allDiff ((bK b).map (·.1))
theorem nL : ∀ {l : List (Nat × Code)} {k : Nat} {c : Code}, allDiff (l.map (·.1)) = true -> (k, c) ∈ l -> l.find? (fun x => Nat.beq x.1 k) = some (k, c)
 | [], k, c, _, h => by cases h
 | (m, d) :: r, k, c, hd, h => by
   simp only [List.map_cons, allDiff, Bool.and_eq_true, Bool.not_eq_true'] at hd; rcases List.mem_cons.1 h with e | e
   ·injection e with e1 e2; subst e1; subst e2; simp
   ·have hne : Nat.beq m k = false := by
      rw [Bool.eq_false_iff]; intro hb; have := Nat.eq_of_beq_eq_true hb; subst this; have hm : m ∈ r.map (·.1) := List.mem_map.2 ⟨(m, c), e, rfl⟩; rw [cQ.2 hm] at hd; exact absurd hd.1 (by simp)
    rw [List.find?_cons]; simp only [hne]; exact nL hd.2 e
theorem EI {P : Program} {f : FuncId} {fn : Func} {b c : Code} {k : Nat} (hd : kF P f = true) (hf : P.funcs[f]? = some fn) (hb : fn.body = some b) (hm : (k, c) ∈ bK b) : c = fR P f k := by
 unfold kF at hd; unfold fR; rw [hf] at hd ⊢; simp only at hd ⊢; rw [hb] at hd ⊢; simp only at hd ⊢; rw [nL hd hm]
theorem CA {b : Code} {k : Nat} {c : Code} (h : (k, c) ∈ bK b) : ∀ x ∈ bK c, x ∈ bK b := by
 induction b with
 | seq a b iha ihb =>
   simp only [bK, List.mem_append] at h ⊢; intro x hx; rcases h with h | h
   ·exact .inl (iha h x hx)
   ·exact .inr (ihb h x hx)
 | cond o a b iha ihb =>
   simp only [bK, List.mem_append] at h ⊢; intro x hx; rcases h with h | h
   ·exact .inl (iha h x hx)
   ·exact .inr (ihb h x hx)
 | block i a ih => simp only [bK] at h ⊢; exact ih h
 | loop a ih =>
   simp only [bK, List.mem_cons] at h ⊢; intro x hx; rcases h with h | h
   ·injection h with h1 h2; subst h2; exact .inr hx
   ·exact .inr (ih h x hx)
 | _ => simp [bK] at h
theorem oJ {P : Program} {f : FuncId} (k : Nat) (h : ((P.funcs[f]?).bind (·.body)).isSome = true) : lR P f (bK (fR P f k)) := by
 unfold fR; cases hf : P.funcs[f]? with
 | none => rw [hf] at h; cases h
 | some fn =>
   rw [hf] at h; cases hb : fn.body with
   | none => simp [hb] at h
   | some b =>
     refine ⟨fn, b, hf, hb, ?_⟩; simp only [hb]; cases hfd : (bK b).find? (fun x => Nat.beq x.1 k) with
     | none => intro x hx; simp [bK] at hx
     | some x =>
       have hm := List.mem_of_find?_eq_some hfd; exact CA (k := x.1) hm
section
variable {P : Program} {env : Env} {X : dF} {w0 : Anchor}
theorem yI (hP : Plain P) (hM : P.follows .mixedOrders = true) (hX : eJ P env w0 (X.cR P)) {fuel n : Nat} {f : FuncId} {c : Code} {fr : Fr} {h : aQ} {nx : Nat} {fs : aa} {l : List bR}
    (hfit : lR P f (bK c)) (he : explore P X fuel (.code f c fr) h nx n fs = .ok l) (hf : fs.aB env) {ρ : af} {a : Act} {w : World} (hs : Sat env w0 ρ fr (bg h) nx a w) {K : Exit -> Act -> World -> Prop}
    (hl : ∀ q ∈ l, q.fs.aB env -> (∀ e ∈ q.vcs, e.den env) /\ ∀ ρ' a' w', ρ.le ρ' -> Sat env w0 ρ' q.fr (bg q.h) q.nx a' w' -> K q.ex.den a' w') : c.wp P K a w := by
 obtain ⟨q, hq, hqf, hj⟩ := xA (P := P) (env := env) (cmd := .code f c fr) hfit n hf he; obtain ⟨hv, hk⟩ := hl q hq hqf; obtain ⟨ft, hj⟩ := hj hv
 have e2 : mv (bg h) (bg q.h) ft = bg q.h := by
  funext n
  unfold mv
  by_cases hm : n ∈ ft.wr
  ·rw [if_pos hm]
  ·rw [if_neg hm]; exact (hj.loc.1 n hm).symm
 refine (Ev.sound hP hM hX hj).2 (bg h) (fun _ _ => rfl) ρ a w K hs fun ρ' a' w' hle hs' => hk ρ' a' w' hle ?_; have hs2 : Sat env w0 ρ' q.fr (mv (bg h) (bg q.h) ft) q.nx a' w' := hs'; rw [e2] at hs2; exact hs2
theorem DP {c : Code} {Q : Exit -> Act -> World -> Prop} (I : Nat -> Act -> World -> Prop) (step : ∀ n a w, I n a w -> c.wp P (Exit.then (fun a' w' => ∃ m, n = m + 1 /\ I m a' w') Q) a w) :
    ∀ n a w, I n a w -> (Code.loop c).wp P Q a w := by
 have rounds : ∀ n a w, I n a w -> Code.rounds P c Q (n + 1) a w := by
  intro n
  induction n with
  | zero =>
    intro a w h; rw [rounds_succ]; refine wp_mono (step 0 a w h) ?_; intro e a' w' he; cases e with
    | normal => obtain ⟨m, hm, _⟩ := he; omega
    | _ => exact he
  | succ n ih =>
    intro a w h; rw [rounds_succ]; refine wp_mono (step (n + 1) a w h) ?_; intro e a' w' he; cases e with
    | normal =>
      obtain ⟨m, hm, hI⟩ := he; have : m = n := by omega
      subst this; exact ih a' w' hI
    | _ => exact he
 exact fun n a w h => wp_loop_rounds (n + 1) (rounds n a w h)
end
theorem NX {P : Program} (h : P.funcs.toList.all (fun fn => !(fn.body.isSome && fn.name == "runtime.NumGoroutine")) = true) : Plain P := by
 intro f fn hf hb; have := List.all_eq_true.1 h fn (by rw [<- Array.getElem?_toList] at hf; exact List.mem_of_getElem? hf)
 rw [hb] at this; simpa using this
section
variable {W : World} {KS : List PK} {VS : List Value} {x : Env}
theorem lr {env : Env} {a b : aa} (h : a.aB env) (k : b.aB env) : aa.aB env (a ++ b) := fun e t hm => by
 rcases List.mem_append.1 hm with h1 | h1
 ·exact h e t h1
 ·exact k e t h1
theorem ib {env : Env} : aa.aB env [] := fun e t hm => by cases hm
theorem zb {env : Env} {k : IntKind} {c : Nat} {n : Int} (h : env.v c = .i n) (h1 : xz k <= n) (h2 : n <= vN k) : aa.aB env (CK.facts (.int k) c) := by
 have e : ((E.v c).den env).I = n := by simp only [E.den, h]; rfl
 refine aa.fh ?_ (aa.fh ?_ ib)
 ·rw [BO, e]; exact decide_eq_true h1
 ·rw [BO, e]; exact decide_eq_true h2
theorem rz {env : Env} : ∀ {ks : List CK} {c : Nat}, (∀ (j : Nat) (k : CK), ks[j]? = some k -> ∃ v, k.ok W v /\ env.v (c + j) = k.rd W v) -> aa.aB env (sS ks c)
 | [], c, _ => ib
 | k :: r, c, h => by
   refine lr ?_ (rz (fun j k' hj => ?_))
   ·obtain ⟨v, hok, hv⟩ := h 0 k rfl; cases k with
    | int k => obtain ⟨n, rfl, h1, h2⟩ := hok; exact zb hv h1 h2
    | _ => exact ib
   ·obtain ⟨v, hok, hv⟩ := h (j + 1) k' (by simpa using hj)
    exact ⟨v, hok, by rw [<- hv]; congr 1; omega⟩
theorem Fo {i : Nat} {p : PK} {v : Value} (hk : KS[i]? = some p) (hv : VS[i]? = some v) (hh : p.holds W v) (hs : p.small = true) : aa.aB (ee W KS VS x) (Hd p i) := by
 have d := ET i; cases p with
 | int k =>
   obtain ⟨n, rfl, h1, h2⟩ := hh; exact zb (n := n) (by simp only [ee, uQ, Ko, d.1, hv, hk]; rfl) h1 h2
 | struct ks =>
   obtain ⟨cs, rfl, hok⟩ := hh; have hsm : ks.length <= 32 := Nat.le_of_ble_eq_true hs; refine rz (W := W) (fun j k hj => ?_); obtain ⟨u, hu, huk⟩ := hok.2 j k hj; have hjl : j < ks.length := (List.getElem?_eq_some_iff.1 hj).1; have dd := Mu i j (by omega)
   have hu' : cs[j]? = some u := by simpa using hu
   have hck : Dl KS (32 * i + j) = k := by unfold Dl; rw [dd.1, dd.2, hk]; simp only [hj, Option.getD_some]
   exact ⟨u, huk, by simp only [ee, uQ, Ko, dd.1, dd.2, hv, hk, hu', hck, Option.getD_some]⟩
 | rows sz ks =>
   obtain ⟨A, len, cap, rfl, hle, hcap, hA, hks, cJ⟩ := hh; have e : ((E.v (32 * i)).den (ee W KS VS x)).I = (len : Int) := by simp only [E.den, ee, uQ, Ko, d.1, hv, hk]; rfl
   have hm : maxLen <= 9223372036854775807 := by decide
   refine aa.fh ?_ (aa.fh ?_ ib)
   ·rw [BO, e]; exact decide_eq_true (by show (0 : Int) <= _; omega)
   ·rw [BO, e]; exact decide_eq_true (by show (len : Int) <= 9223372036854775807; omega)
 | cg ks =>
   have hm : maxLen <= 9223372036854775807 := by decide
   have hf := (DK.rd_fits hh : DK.fits (.sl ks) _); simp only [DK.fits] at hf; have e : ((E.o1 .ab (.v (32 * i))).den (ee W KS VS x)).I = ((((DK.sl ks).rd W v).T.length : Nat) : Int) := by simp only [E.den, O1.den, ee, uQ, Ko, d.1, hv, hk]; rfl
   refine aa.fh ?_ ib; rw [BO, e]; exact decide_eq_true (by show _ <= (9223372036854775807 : Int); omega)
 | _ => exact ib
theorem tP (hsm : ∀ p ∈ KS, p.small = true) (cJ : ∀ (i : Nat) (p : PK) (v : Value), KS[i]? = some p -> VS[i]? = some v -> p.holds W v) : ∀ (r : List PK) (i : Nat),
    (∀ k, KS[i + k]? = r[k]?) -> (i + r.length = VS.length) -> aa.aB (ee W KS VS x) (sc r i)
 | [], i, _, _ => ib
 | p :: r, i, h1, h2 => by
   have e1 : KS[i]? = some p := by have := h1 0; simpa using this
   have hi : i < VS.length := by simp at h2; omega
   have e2 : VS[i]? = some VS[i] := List.getElem?_eq_getElem hi; refine lr (Fo e1 e2 (cJ i p _ e1 e2) (hsm p (List.mem_of_getElem? e1))) (tP hsm cJ r (i + 1) (fun k => ?_) (by simp at h2 ⊢; omega))
   have := h1 (k + 1); rw [<- Nat.add_assoc] at this; simpa [Nat.add_right_comm] using this
end
section
open Go.ChangeShapes Go.WideShapes Go.ChangeAt
variable {H : Type} {enc : TypeId × Value -> H} {P : Program}
theorem yK {W : World} {base : Nat} {ps : List MemPlace} : ∀ {ts : List TypeId} {vs : List Value} {ds : List (DataW H)} {ks : List PK} {ps : List MemPlace}, ts.mapM (PK.of P) = some ks ->
    (∀ (j : Nat) t v, ts[j]? = some t -> vs[j]? = some v -> Value.okWide P W .any base t v) -> DataW.TrodAll enc P W 0 (fun _ => true) true ts vs ds ps ->
    vs.length = ks.length /\ ds.length = ks.length /\ ∀ (i : Nat) (p : PK) (v : Value), ks[i]? = some p -> vs[i]? = some v -> p.holds W v
 | [], [], [], ks, _, hk, _, _ => by simp at hk; subst hk; exact ⟨rfl, rfl, fun i p v h => by simp at h⟩
 | t :: ts, v :: vs, d :: ds, ks, _, hk, hv, ⟨p, q, h1, h2, e⟩ => by
   rw [List.mapM_cons] at hk; cases hp : PK.of P t with
   | none => rw [hp] at hk; cases hk
   | some k =>
     rw [hp] at hk; cases hr : ts.mapM (PK.of P) with
     | none => rw [hr] at hk; cases hk
     | some r =>
       rw [hr] at hk; have hk' : some (k :: r) = some ks := hk; injection hk' with hk'; subst hk'; obtain ⟨l1, l2, h⟩ := yK (base := base) (ps := []) hr (fun j t v hj hv' => hv (j + 1) t v (by simpa using hj) (by simpa using hv')) h2
       refine ⟨by simp [l1], by simp [l2], fun i p' v' hi hv' => ?_⟩
       cases i with
       | zero =>
         simp at hi hv'; subst hi; subst hv'; exact ME hp (hv 0 t v rfl rfl) h1
       | succ i => exact h i p' v' (by simpa using hi) (by simpa using hv')
 | [], _ :: _, _, _, _, _, _, h => h.elim
 | [], [], _ :: _, _, _, _, _, h => h.elim
 | _ :: _, [], _, _, _, _, _, h => h.elim
 | _ :: _, _ :: _, [], _, _, _, _, h => h.elim
theorem AT (hl : laidOutB P = true) {f : FuncId} {fn : Func} {s : ChangeSpec} {ks : List PK} {tb : TypeId} (hks : fn.params.toList.mapM (PK.of P) = some ks)
    (hp : fn.params.toList.all (fun t => P.readableRec t && Nat.blt t P.types.size) = true) (hres : fn.resultTypes = #[tb]) (htb : P.underlying tb = some .bool) (hvars : s.vars = [])
    (hspec : ∀ ds : List (DataW H), ds.length = ks.length -> s.fn H ds = { results := [.lit (.bool true)], args := ds })
    {W : World} (hmain : ∀ vs : List Value, vs.length = ks.length -> (∀ (i : Nat) (p : PK) (v : Value), ks[i]? = some p -> vs[i]? = some v -> p.holds W v) ->
     Calls P f vs.toArray W fun e W' => e = .returned (.bool true) /\ Below W.heap.size W W')
    {base : Nat} {args : Array Value} {ds gs : List (DataW H)} {before : List MemPlace} (hval : ∀ (j : Nat) t v, fn.params[j]? = some t -> args[j]? = some v -> Value.okWide P W .any base t v)
    (hW : DataW.Whole enc P fn.params.toList s.vars false W args.toList ds gs before) :
    Calls P f args W fun e W' => ∃ v, e = .returned v /\ s.post enc P fn false true false false W args v W' := by
 have hW' := hW; obtain ⟨p, q, hA, _⟩ := hW; obtain ⟨l1, l2, h⟩ := yK (base := base) (ps := []) hks (fun j t v hj hv => hval j t v (by simpa using hj) (by simpa using hv)) hA
 have hc := hmain args.toList l1 h; rw [Array.toArray_toList] at hc; refine hc.mono fun e W' ⟨he, hb⟩ => ⟨_, he, K4 hW' hvars (hspec ds l2) hres htb hl (fun t ht => ?_) hb⟩; have := List.all_eq_true.1 hp t ht; simp only [Bool.and_eq_true] at this; refine ⟨this.1, ?_⟩; have h2 := this.2; unfold Nat.blt at h2; exact Nat.le_of_ble_eq_true h2
end
def xy : List Nat -> List SV -> List SV
 | [], l => l
 | j :: r, l => xy r (l.set j .top)
theorem zn {env : Env} {ρ : af} : ∀ {js : List Nat} {l : List SV} {vs : List Value}, SV.aD env ρ l vs -> SV.aD env ρ (xy js l) vs
 | [], _, _, h => h
 | j :: r, l, vs, h => by
   show SV.aD env ρ (xy r (l.set j .top)) vs; refine zn (js := r) ?_; cases hv : vs[j]? with
   | none =>
     have : l.length <= j := by rw [<- h.length]; exact List.getElem?_eq_none_iff.1 hv
     rw [List.set_eq_of_length_le this]; exact h
   | some v =>
     have := h.set j (x := .top) (v := v) (trivial : SV.Rel env ρ .top v)
     have e : vs.set j v = vs := by
      apply List.ext_getElem?
      intro i; rw [List.getElem?_set]; split
      ·rename_i hij; subst hij; rw [hv]; rw [if_pos (List.getElem?_eq_some_iff.1 hv).1]
      ·rfl
     rw [e] at this; exact this
theorem og {env : Env} {ρ : af} : ∀ {l : List SV} {vs : List Value}, vs.length = l.length -> (∀ (j : Nat) (x : SV) (v : Value), l[j]? = some x -> vs[j]? = some v -> x.Rel env ρ v) -> SV.aD env ρ l vs
 | [], [], _, _ => rfl
 | [], _ :: _, h, _ => by simp at h
 | _ :: _, [], h, _ => by simp at h
 | x :: l, v :: vs, h, k => ⟨v, vs, rfl, k 0 x v rfl rfl, og (by simpa using h) (fun j x' v' h1 h2 => k (j + 1) x' v' (by simpa using h1) (by simpa using h2))⟩
theorem Dt : ∀ {js : List Nat} {l : List SV} {j : Nat} {x : SV}, (xy js l)[j]? = some x -> x = .top \/ (j ∉ js /\ l[j]? = some x)
 | [], l, j, x, h => .inr ⟨by simp, h⟩
 | k :: r, l, j, x, h => by
   rcases Dt (js := r) (l := l.set k .top) h with h1 | ⟨h1, h2⟩
   ·exact .inl h1
   ·rw [List.getElem?_set] at h2
    by_cases e : k = j
    ·rw [if_pos e] at h2; split at h2
     ·exact .inl (by simpa using h2.symm)
     ·cases h2
    ·rw [if_neg e] at h2; exact .inr ⟨by simp only [List.mem_cons, not_or]; exact ⟨fun h => e h.symm, h1⟩, h2⟩
theorem uu : ∀ {js : List Nat} {l : List SV}, (xy js l).length = l.length
 | [], _ => rfl
 | k :: r, l => by simp [xy, uu (js := r)]
theorem cB {P : Program} {env : Env} {w0 : Anchor} : eJ P env w0 (dF.none.cR P) :=
 ⟨fun f args nx p h r h' nx' hx => (by cases hx), fun c fr nx p h ex fr' h' nx' hx => by obtain ⟨_, _, _, _, _, _, _, _, h⟩ := hx; cases h⟩
def bR.forget (js : List Nat) (q : bR) : bR := { q with fr := ⟨xy js q.fr.sl, q.fr.df⟩ }
def ik (P : Program) (X : dF) (fuel : Nat) (cmd : VG) (h : aQ) (nx n : Nat) (fs : aa) (js : List Nat) : Ex (List bR) :=
 match explore P X fuel cmd h nx n fs with
 | .ok l => .ok (l.map (bR.forget js))
 | .error e => .error e
theorem Sat.forget {env : Env} {w0 : Anchor} {ρ : af} {fr : Fr} {h : aL} {nx : Nat} {a : Act} {w : World} (hs : Sat env w0 ρ fr h nx a w) (js : List Nat) : Sat env w0 ρ ⟨xy js fr.sl, fr.df⟩ h nx a w :=
 ⟨hs.hs, zn hs.sl, hs.df, hs.nx⟩
theorem ku {P : Program} {env : Env} {X : dF} {w0 : Anchor} (hP : Plain P) (hM : P.follows .mixedOrders = true) (hX : eJ P env w0 (X.cR P)) {fuel n : Nat} {f : FuncId} {c : Code} {fr : Fr} {h : aQ} {nx : Nat} {fs : aa} {js : List Nat} {l : List bR}
    (hfit : lR P f (bK c)) (he : ik P X fuel (.code f c fr) h nx n fs js = .ok l) (hf : fs.aB env) {ρ : af} {a : Act} {w : World} (hs : Sat env w0 ρ fr (bg h) nx a w) {K : Exit -> Act -> World -> Prop}
    (hl : ∀ q ∈ l, q.fs.aB env -> (∀ e ∈ q.vcs, e.den env) /\ ∀ ρ' a' w', ρ.le ρ' -> Sat env w0 ρ' q.fr (bg q.h) q.nx a' w' -> K q.ex.den a' w') : c.wp P K a w := by
 unfold ik at he; cases hx : explore P X fuel (.code f c fr) h nx n fs with
 | error e => rw [hx] at he; cases he
 | ok l0 =>
   rw [hx] at he; simp only at he; injection he with he; subst he; refine yI hP hM hX hfit hx hf hs fun q hq hqf => ?_; obtain ⟨h1, h2⟩ := hl (q.forget js) (List.mem_map.2 ⟨q, hq, rfl⟩) hqf; exact ⟨h1, fun ρ' a' w' hle hs' => h2 ρ' a' w' hle (hs'.forget js)⟩
theorem Kept.trans {a b c : World} (h : Kept (anchor a) b) (k : Kept (anchor b) c) : Kept (anchor a) c :=
 ⟨k.os.trans h.os, k.tape.trans h.tape, k.output.trans h.output, Nat.le_trans h.size k.size, fun i hi => (k.block i (Nat.lt_of_lt_of_le hi h.size)).trans (h.block i hi)⟩
def cF (w : World) (ρ : af) (B : Nat -> Prop) : Anchor := ⟨w, fun k => k < w.heap.size /\ ¬ B k, fun k => ∃ x, ρ.fz k = some x, ρ.fz.ar, fun _ h => h.1⟩
theorem DN {env : Env} {ρ : af} {ov : List (Nat × SV)} {u : Nat -> Value} {N : Nat} {vs : List Value} (h : SV.aD env ρ (et ov u 0 N) vs) {j : Nat} (hj : j < N) :
    ∃ v, vs[j]? = some v /\ (match b9 ov j with | some x => x.Rel env ρ v | none => v = u j) := by
 have hg := kW (ov := ov) (u := u) N 0 j hj; rw [Nat.zero_add] at hg; obtain ⟨v, hv, hr⟩ := h.get hg; refine ⟨v, hv, ?_⟩; cases ho : b9 ov j with
 | some x => rw [ho] at hr; exact hr
 | none => rw [ho] at hr; exact hr
theorem eK (ov : List (Nat × SV)) (u : Nat -> Value) : ∀ (n j : Nat), (et ov u j n).length = n
 | 0, _ => rfl
 | n + 1, j => by simp [et, eK ov u n]
section
variable (e e' : Env) (σ : Nat -> Nat)
mutual
def SV.aV : SV -> SV -> Prop
 | x, .top => True
 | .int k a, .int k' b => k = k' /\ (a.den e).I = (b.den e').I
 | .bool a, .bool b => (a.den e).B = (b.den e').B
 | .str a, .str b => (a.den e).S = (b.den e').S
 | .val c a, .val d b => e.val c (a.den e).I = e'.val d (b.den e').I
 | .gm, .gm => True
 | .ptr n o, .ptr m o' => n = σ m /\ o.den e = o'.den e'
 | .ptr _ _, .mS => False
 | .mS, .mS => True
 | .cr, .cr => True
 | .sl n sz lo len, .sl m sz' lo' len' => n = σ m /\ sz = sz' /\ (lo.den e).I = (lo'.den e').I /\ (len.den e).I = (len'.den e').I
 | .cg ks a, .cg ks' b => ks = ks' /\ (a.den e).T = (b.den e').T
 | .cr, .cg _ b => (b.den e').T = []
 | .gV ks a, .cg ks' b => ks = ks' /\ (a.den e).T = (b.den e').T
 | .gV ks a, .gV ks' b => ks = ks' /\ (a.den e).T = (b.den e').T
 | .dC ks a i j, .dC ks' b i' j' => ks = ks' /\ j = j' /\ ∀ m, (a.den e).at (i.den e).I.toNat m = (b.den e').at (i'.den e').I.toNat m
 | .pq T i j, .pq T' i' j' => T = T' /\ j = j' /\ (i.den e).I = (i'.den e').I
 | .gm, .pq _ i' j' => j' = 0 /\ (i'.den e').I < 0
 | .cC, .cC => True
 | .map n, .map m => n = σ m
 | .chan n, .chan m => n = σ m
 | .mF, .mF => True
 | .iC, .iC => True
 | .fn f a c, .fn g b d => f = g /\ SV.ents a b /\ SV.ents c d
 | .dO, .dO => True
 | .eh t x, .eh u y => t = u /\ SV.aV x y
 | .agg l, .agg m => SV.ents l m
 | .fq l, .fq m => SV.ents l m
 | .B1 v, .B1 u => v = u
 | _, _ => False
def SV.ents : List SV -> List SV -> Prop
 | [], [] => True
 | x :: l, y :: m => SV.aV x y /\ SV.ents l m
 | _, _ => False
end
mutual
theorem SV.fK {ρ : af} : ∀ {x y : SV} {v : Value}, SV.aV e e' σ x y -> x.Rel e ρ v -> y.Rel e' (ρ.re σ) v := by
 intro x y v h hx; cases y with
 | top => trivial
 | pq T b j =>
   cases x <;> simp only [SV.aV] at h
   ·simp only [SV.Rel] at hx ⊢; obtain ⟨rfl, h⟩ := h; exact .inl ⟨h, hx⟩
   ·obtain ⟨rfl, rfl, h⟩ := h; simp only [SV.Rel] at hx ⊢; rw [<- h]; exact hx
 | int k b =>
   cases x <;> simp only [SV.aV] at h; obtain ⟨rfl, h⟩ := h; simp only [SV.Rel] at hx ⊢; rw [hx, h]
 | bool b => cases x <;> simp only [SV.aV] at h; simp only [SV.Rel] at hx ⊢; rw [hx, h]
 | str b => cases x <;> simp only [SV.aV] at h; simp only [SV.Rel] at hx ⊢; rw [hx, h]
 | BZ f => cases x <;> simp only [SV.aV] at h
 | val d b => cases x <;> simp only [SV.aV] at h; simp only [SV.Rel] at hx ⊢; rw [hx, h]
 | gm => cases x <;> simp only [SV.aV] at h; exact hx
 | mS => cases x <;> simp only [SV.aV] at h; exact hx
 | ptr m o =>
   cases x <;> simp only [SV.aV] at h; obtain ⟨rfl, h⟩ := h; simp only [SV.Rel] at hx ⊢; obtain ⟨p, hp, rfl⟩ := hx; exact ⟨p, hp, by rw [h]⟩
 | cr => cases x <;> simp only [SV.aV] at h; exact hx
 | sl m sz lo len =>
   cases x <;> simp only [SV.aV] at h; obtain ⟨rfl, rfl, h1, h2⟩ := h; simp only [SV.Rel] at hx ⊢; rw [h1, h2] at hx; exact hx
 | cg ks b =>
   cases x <;> simp only [SV.aV] at h
   ·simp only [SV.Rel] at hx ⊢; subst hx; simp only [DK.Rel]; exact ⟨none, 0, by rw [h]; rfl, by rw [h]; exact Nat.le_refl 0, fun hl => by rw [h] at hl; exact absurd hl (Nat.lt_irrefl 0)⟩
   ·obtain ⟨rfl, h⟩ := h; simp only [SV.Rel] at hx ⊢; exact hx.rows h
   ·obtain ⟨rfl, h⟩ := h; simp only [SV.Rel] at hx ⊢; exact hx.1.rows h
 | gV ks b =>
   cases x <;> simp only [SV.aV] at h; obtain ⟨rfl, h⟩ := h; simp only [SV.Rel] at hx ⊢; exact ⟨hx.1.rows h, hx.2⟩
 | dC _ _ _ _ =>
   cases x <;> simp only [SV.aV] at h; obtain ⟨rfl, rfl, h⟩ := h; simp only [SV.Rel] at hx ⊢; obtain ⟨b, o, rfl, hr⟩ := hx; refine ⟨b, o, rfl, ?_⟩; rw [<- funext h]; exact hr
 | cC => cases x <;> simp only [SV.aV] at h; exact hx
 | map m => cases x <;> simp only [SV.aV] at h; subst h; exact hx
 | chan m => cases x <;> simp only [SV.aV] at h; subst h; exact hx
 | mF => cases x <;> simp only [SV.aV] at h; exact hx
 | iC => cases x <;> simp only [SV.aV] at h; exact hx
 | fn g b d =>
   cases x <;> simp only [SV.aV] at h; obtain ⟨rfl, h1, h2⟩ := h; simp only [SV.Rel] at hx ⊢; obtain ⟨p, q, rfl, k1, k2⟩ := hx; exact ⟨p, q, rfl, SV.ents_ok h1 k1, SV.ents_ok h2 k2⟩
 | dO => cases x <;> simp only [SV.aV] at h; exact hx
 | eh u y =>
   cases x <;> simp only [SV.aV] at h; obtain ⟨rfl, h⟩ := h; simp only [SV.Rel] at hx ⊢; obtain ⟨z, rfl, k⟩ := hx; exact ⟨z, rfl, SV.fK h k⟩
 | agg m =>
   cases x <;> simp only [SV.aV] at h; simp only [SV.Rel] at hx ⊢; obtain ⟨z, rfl, k⟩ := hx; exact ⟨z, rfl, SV.ents_ok h k⟩
 | fq m =>
   cases x <;> simp only [SV.aV] at h; simp only [SV.Rel] at hx ⊢; obtain ⟨z, rfl, k⟩ := hx; exact ⟨z, rfl, SV.ents_ok h k⟩
 | B1 u => cases x <;> simp only [SV.aV] at h; subst h; exact hx
theorem SV.ents_ok {ρ : af} : ∀ {l m : List SV} {vs : List Value}, SV.ents e e' σ l m -> SV.aD e ρ l vs -> SV.aD e' (ρ.re σ) m vs := by
 intro l m vs h hx; cases m with
 | nil =>
   cases l with
   | nil => exact hx
   | cons _ _ => simp only [SV.ents] at h
 | cons y m =>
   cases l with
   | nil => simp only [SV.ents] at h
   | cons x l =>
     simp only [SV.ents] at h; simp only [SV.aD] at hx ⊢; obtain ⟨v, r, rfl, h1, h2⟩ := hx; exact ⟨v, r, rfl, SV.fK h.1 h1, SV.ents_ok h.2 h2⟩
end
def aA.aV : aA -> aA -> Prop
 | _, .gone => True
 | .cells T cs, .cells T' cs' => T = T' /\ SV.ents e e' σ cs cs'
 | .row T sz len cols tail, .row T' sz' len' cols' tail' => T = T' /\ sz = sz' /\ tail' = [] /\ 0 <= (len.den e).I /\ (len'.den e').I = (len.den e).I + tail.length /\ cols'.length <= sz /\
     ∀ (j : Nat) (col' : ch), cols'[j]? = some col' ->
      (∀ i : Nat, (i : Int) < (len.den e).I -> ∃ bY, cols[j]? = some bY /\ SV.aV e e' σ (bY.at (.il i)) (col'.at (.il i))) /\
      (∀ (k : Nat) (t : List SV), tail[k]? = some t -> ∃ x, t[j]? = some x /\ SV.aV e e' σ x (col'.at (.il ((len.den e).I + k))))
 | .map m ix kk sz known, .map m' ix' kk' sz' known' => kk = kk' /\ (∀ p ∈ known', lj kk p.1 = true) /\ (sz.den e).I = (sz'.den e').I /\ ∃ kv kv', DG e known = some kv /\ DG e' known' = some kv' /\ ∀ k, kk.ok k -> cont kv (res e m (ix.den e).I) k = cont kv' (res e' m' (ix'.den e').I) k
 | .chan a, .chan b => (a.den e).B = (b.den e').B
 | .ar T ks a, .ar T' ks' b => T = T' /\ ks = ks' /\ (a.den e).T = (b.den e').T
 | .k7 kk ag ks a it, .k7 kk' ag' ks' b it' => kk = kk' /\ ag = ag' /\ ks = ks' /\ (a.den e).T.Perm (b.den e').T /\ Ks σ it it'
 | .rA T ks a, .rA T' ks' b => T = T' /\ ks = ks' /\ (a.den e).T.Perm (b.den e').T
 | .row T sz len cols tail, .rA T' ks b => T = T' /\ sz = ks.len /\ 0 < sz /\ tail = [] /\ ∃ a : E, cols = bX ks a 0 /\ (len.den e).I = (a.den e).T.length /\ (a.den e).T.Perm (b.den e').T
 | .pf m kk a, .pf m' kk' b => m = σ m' /\ kk = kk' /\ (a.den e).T = (b.den e').T
 | .map _ _ kk sz _, .k7 kk' _ _ b it' => kk = kk' /\ (sz.den e).I = 0 /\ (b.den e').T = [] /\ it' = none
 | _, _ => False
theorem Ms {e : Env} {ρ : af} {kk : KK} : ∀ {l : List (SV × KV)} {kv kv' : List (Value × Option Value)}, DG e l = some kv -> bM e ρ kk l kv' -> kv' = kv
 | [], kv, kv', h, r => by simp only [DG, Option.some.injEq] at h; simp only [bM] at r; rw [r, h]
 | (k, x) :: l, kv, kv', h, ⟨a, b, q, e1, h1, h2, h3, h4⟩ => by
   simp only [DG] at h; split at h
   ·rename_i a' b' r' g1 g2 g3; injection h with h; subst h; rw [e1, SV.fl_ok g1 h2, Ms g3 h4]
    have : b = b' := by
     cases x with
     | no => simp only [Mk, Option.some.injEq] at g2; have h3 : b = none := h3; rw [h3, g2]
     | yes x =>
       simp only [Mk, Option.map_eq_some_iff] at g2; obtain ⟨u, gu, rfl⟩ := g2; obtain ⟨v, rfl, h3⟩ := h3; rw [SV.fl_ok gu h3]
     | may t x =>
       simp only [Mk, Option.map_eq_some_iff] at g2; obtain ⟨u, gu, rfl⟩ := g2; simp only [KV.Rel] at h3; cases ht : (t.den e).B with
       | true => rw [ht] at h3; obtain ⟨v, rfl, h3⟩ := h3; rw [SV.fl_ok gu h3]; rfl
       | false => rw [ht] at h3; exact h3
    rw [this]
   ·cases h
mutual
theorem SV.fl_rel {e : Env} {ρ : af} : ∀ {x : SV} {u : Value}, SV.fl e x = some u -> x.Rel e ρ u
 | .int .., _, h => by simp only [SV.fl, Option.some.injEq] at h; exact h.symm
 | .bool .., _, h => by simp only [SV.fl, Option.some.injEq] at h; exact h.symm
 | .str .., _, h => by simp only [SV.fl, Option.some.injEq] at h; exact h.symm
 | .val .., _, h => by simp only [SV.fl, Option.some.injEq] at h; exact h.symm
 | .gm, _, h => by simp only [SV.fl, Option.some.injEq] at h; exact h.symm
 | .cr, _, h => by simp only [SV.fl, Option.some.injEq] at h; exact h.symm
 | .dO, _, h => by simp only [SV.fl, Option.some.injEq] at h; exact h.symm
 | .agg l, _, h => by
   simp only [SV.fl, Option.map_eq_some_iff] at h; obtain ⟨vs, h1, h2⟩ := h; exact ⟨vs, h2.symm, SV.fls_rel h1⟩
 | .BZ .., _, h => by simp [SV.fl] at h
 | .ptr .., _, h => by simp [SV.fl] at h
 | .mS, _, h => by simp [SV.fl] at h
 | .sl .., _, h => by simp [SV.fl] at h
 | .cC, _, h => by simp [SV.fl] at h
 | .map .., _, h => by simp [SV.fl] at h
 | .chan .., _, h => by simp [SV.fl] at h
 | .mF, _, h => by simp [SV.fl] at h
 | .iC, _, h => by simp [SV.fl] at h
 | .fn .., _, h => by simp [SV.fl] at h
 | .eh .., _, h => by simp [SV.fl] at h
 | .fq .., _, h => by simp [SV.fl] at h
 | .top, _, h => by simp [SV.fl] at h
 | .B1 .., _, h => by simp [SV.fl] at h
theorem SV.fls_rel {e : Env} {ρ : af} : ∀ {l : List SV} {us : List Value}, SV.fls e l = some us -> SV.aD e ρ l us
 | [], us, h => by simp only [SV.fls, Option.some.injEq] at h; exact h.symm
 | x :: l, us, h => by
   simp only [SV.fls] at h; split at h
   ·rename_i u us' h1 h2; injection h with h; subst h; exact ⟨u, us', rfl, SV.fl_rel h1, SV.fls_rel h2⟩
   ·cases h
end
theorem Ib {e : Env} {ρ : af} {kk : KK} : ∀ {l : List (SV × KV)} {kv : List (Value × Option Value)}, DG e l = some kv -> (∀ p ∈ l, lj kk p.1 = true) -> bM e ρ kk l kv
 | [], kv, h, _ => by simp only [DG, Option.some.injEq] at h; exact h.symm
 | (k, x) :: l, kv, h, hk => by
   simp only [DG] at h; split at h
   ·rename_i a b r g1 g2 g3; injection h with h; subst h; have hka : k.Rel e ρ a := SV.fl_rel g1; refine ⟨a, b, r, rfl, r7 (hk _ (List.mem_cons_self ..)) hka, hka, ?_, Ib g3 fun p hp => hk p (List.mem_cons_of_mem _ hp)⟩; cases x with
    | no => simp only [Mk, Option.some.injEq] at g2; exact g2.symm
    | yes x => simp only [Mk, Option.map_eq_some_iff] at g2; obtain ⟨u, gu, rfl⟩ := g2; exact ⟨u, rfl, SV.fl_rel gu⟩
    | may t x =>
      simp only [Mk, Option.map_eq_some_iff] at g2; obtain ⟨u, gu, rfl⟩ := g2; simp only [KV.Rel]; cases (t.den e).B with
      | true => exact ⟨u, rfl, SV.fl_rel gu⟩
      | false => rfl
   ·cases h
theorem vP {α : Type} {sz : Nat} : ∀ {l : List (List α)} {k j : Nat} {t : List α}, (∀ t ∈ l, t.length = sz) -> l[k]? = some t -> j < sz -> l.flatten[k * sz + j]? = t[j]?
 | [], k, j, t, _, h, _ => by simp at h
 | u :: l, 0, j, t, hl, h, hj => by
   simp only [List.getElem?_cons_zero, Option.some.injEq] at h; subst h; have := hl u (List.mem_cons_self ..); rw [Nat.zero_mul, Nat.zero_add, List.flatten_cons, List.getElem?_append_left (by omega)]
 | u :: l, k + 1, j, t, hl, h, hj => by
   have hu := hl u (List.mem_cons_self ..); have ih := vP (l := l) (k := k) (j := j) (t := t) (fun t ht => hl t (List.mem_cons_of_mem _ ht)) (by simpa using h) hj
   rw [List.flatten_cons, List.getElem?_append_right (by rw [hu, Nat.succ_mul]; omega), <- ih]
   congr 1
   rw [hu, Nat.succ_mul]; omega
theorem eH.aV {ρ : af} {sz : Nat} {len len' : E} {cols cols' : List ch} {tail : List (List SV)} {vs : List Value} (h : eH e ρ sz len cols tail vs) (h0 : 0 <= (len.den e).I)
    (hl : (len'.den e').I = (len.den e).I + tail.length) (hc : cols'.length <= sz)
    (hcol : ∀ (j : Nat) (col' : ch), cols'[j]? = some col' ->
        (∀ i : Nat, (i : Int) < (len.den e).I -> ∃ bY, cols[j]? = some bY /\ SV.aV e e' σ (bY.at (.il i)) (col'.at (.il i))) /\
        (∀ (k : Nat) (t : List SV), tail[k]? = some t -> ∃ x, t[j]? = some x /\ SV.aV e e' σ x (col'.at (.il ((len.den e).I + k))))) :
    eH e' (ρ.re σ) sz len' cols' [] vs := by
 obtain ⟨base, tl, rfl, hb, hbc, htl, hts, _⟩ := h; obtain ⟨L, hL⟩ : ∃ L : Nat, (len.den e).I = (L : Int) := ⟨(len.den e).I.toNat, by omega⟩
 have hL2 : (len.den e).I.toNat = L := by omega
 rw [hL2] at hb hbc; have hlen' : (len'.den e').I.toNat = L + tail.length := by rw [hl, hL]; omega
 have hflat : tail.flatten.length = tail.length * sz := by
  clear htl hl hlen' hcol
  induction tail with
  | nil => simp
  | cons t r ih =>
    rw [List.flatten_cons, List.length_append, hts t (List.mem_cons_self ..), ih (fun u hu => hts u (List.mem_cons_of_mem _ hu)), List.length_cons, Nat.succ_mul]; omega
 have htll := htl.length; refine ⟨base ++ tl, [], by simp, ?_, fun i hi j col' hj => ?_, rfl, fun t ht => (by cases ht), hc⟩
 ·rw [hlen', List.length_append, hb, htll, hflat, Nat.add_mul]
 ·rw [hlen'] at hi; have hjs : j < sz := Nat.lt_of_lt_of_le (List.getElem?_eq_some_iff.1 hj).1 hc; obtain ⟨h1, h2⟩ := hcol j col' hj
  by_cases hiL : i < L
  ·obtain ⟨bY, hcj, hent⟩ := h1 i (by omega)
   obtain ⟨v, hv, hr⟩ := hbc i hiL j bY hcj; refine ⟨v, ?_, SV.fK e e' σ hent hr⟩
   rw [List.getElem?_append_left (by
    have := (List.getElem?_eq_some_iff.1 hv).1
    exact this)]
   exact hv
  ·obtain ⟨k, rfl⟩ : ∃ k, i = L + k := ⟨i - L, by omega⟩
   have hkt : k < tail.length := by omega
   obtain ⟨x, hx, hent⟩ := h2 k tail[k] (List.getElem?_eq_getElem hkt); have hfg := vP (j := j) hts (List.getElem?_eq_getElem hkt) hjs; rw [hx] at hfg; obtain ⟨v, hv, hr⟩ := htl.get hfg; refine ⟨v, ?_, ?_⟩
   ·rw [List.getElem?_append_right (by rw [hb, Nat.add_mul]; omega), <- hv]
    congr 1
    rw [hb, Nat.add_mul]; omega
   ·have := SV.fK e e' σ hent hr; rw [hL] at this; exact this
theorem zJ : ∀ {ks : aJ} {a : E} {j m : Nat} {k : DK}, ks.get m = some k -> (bX ks a j)[m]? = some (.tc k a (j + m))
 | .nil, _, _, _, _, h => by simp [aJ.get] at h
 | .cons k r, _, _, 0, _, h => by simp only [aJ.get, Option.some.injEq] at h; subst h; rfl
 | .cons k r, a, j, m + 1, _, h => by
   have := zJ (a := a) (j := j + 1) (m := m) (by simpa [aJ.get] using h)
   simp only [bX, List.getElem?_cons_succ, this]
   congr 2; omega
theorem aA.HG {A B : Anchor} {ρ : af} {n m : Nat} {o o' : aA} {w : World} (hAB : ∀ p, ρ n = some p -> ¬ A.K p.block -> ¬ B.K p.block) (h : aA.aV e e' σ o o') (ho : o'.owner = true) (hn : n = σ m) (hr : o.Rel e A ρ n w) :
    o'.Rel e' B (ρ.re σ) m w := by
 subst hn; cases o' with
 | cells T' cs' =>
   cases o <;> simp only [aA.aV] at h; obtain ⟨rfl, h⟩ := h; obtain ⟨p, vs, h1, h2, h3, h4, h5, h6⟩ := hr; exact ⟨p, vs, h1, hAB _ h1 h2, h3, h4, SV.ents_ok e e' σ h h5, h6⟩
 | row T' sz' len' cols' tail' =>
   cases o <;> simp only [aA.aV] at h; obtain ⟨rfl, rfl, rfl, h0, hl, hc, hcol⟩ := h; obtain ⟨p, vs, rest, h1, h2, h3, h4, h5, h6, h7⟩ := hr; exact ⟨p, vs, rest, h1, hAB _ h1 h2, h3, h4, eH.aV e e' σ h5 h0 hl hc hcol, h6, h7⟩
 | map m' ix' kk' sz' known' =>
   cases o <;> simp only [aA.aV] at h; obtain ⟨rfl, hko, hsz, kv, kv2, hkv, hkv2, hc⟩ := h; obtain ⟨p, es, clk, kv', h1, h2, h3, h4, h5, h6, h7, h8, h9⟩ := hr; obtain rfl := Ms hkv h8; exact ⟨p, es, clk, kv2, h1, hAB _ h1 h2, h3, h4, h5, h6, by rw [h7, hsz], Ib hkv2 hko, fun k hk => by rw [h9 k hk, hc k hk]⟩
 | chan b =>
   cases o <;> simp only [aA.aV] at h; obtain ⟨p, room, buf, s, r, t, h1, h2, h3, h4, h5⟩ := hr; exact ⟨p, room, buf, s, r, t, h1, hAB _ h1 h2, h3, h4, by rw [<- h]; exact h5⟩
 | k7 kk' ag' ks' b it' =>
   cases o <;> simp only [aA.aV] at h
   ·rename_i m ix kk sz known; obtain ⟨rfl, h0, hT, rfl⟩ := h; obtain ⟨p, es, clk, kv, h1, h2, h3, h4, h5, h6, h7, _⟩ := hr; have he : es.toList = [] := List.length_eq_zero_iff.1 (by rw [Array.length_toList]; rw [h0] at h7; omega)
    refine ⟨p, es, clk, h1, hAB _ h1 h2, h3, h4, h5, h6, ?_, ko.no⟩; rw [he, hT]; exact ⟨[], List.Perm.refl _, .nil⟩
   ·obtain ⟨rfl, rfl, rfl, hT, hit⟩ := h; obtain ⟨p, es, clk, h1, h2, h3, h4, h5, h6, h7, h8⟩ := hr; exact ⟨p, es, clk, h1, hAB _ h1 h2, h3, h4, h5, h6, (by obtain ⟨l, p1, p2⟩ := h7; exact ⟨l, p1.trans hT, p2⟩), h8.aV hit⟩
 | rA T' ks' b =>
   cases o <;> simp only [aA.aV] at h
   ·rename_i T sz len cols tail; obtain ⟨rfl, rfl, hpos, rfl, a, rfl, hlen, hT⟩ := h; obtain ⟨p, vs, rest, h1, h2, h3, h4, h5, h6, h7⟩ := hr; obtain ⟨bs, tl, rfl, hb, hbc, htl, hts, _⟩ := h5; have hL : (len.den e).I.toNat = (a.den e).T.length := by omega
    rw [hL] at hb hbc; have htl0 : tl = [] := by simpa [SV.aD] using htl
    subst htl0; refine ⟨p, (a.den e).T, _, h1, hAB _ h1 h2, h3, h4, h7, hT, by simpa using h6, ?_, fun i hi => ?_⟩
    ·have : bs.length <= p.cap * ks'.len := by rw [<- h6]; simp
     rw [hb] at this; exact Nat.le_of_mul_le_mul_right this hpos
    ·refine aJ.Rel.BD fun m k hk => ?_; obtain ⟨v, hv, hrel⟩ := hbc i hi m _ (zJ hk); have cW := (List.getElem?_eq_some_iff.1 hv).1; refine ⟨v, ?_, ?_⟩
     ·show (bs ++ [] ++ rest).toArray[i * ks'.len + (0 + m)]? = some v; rw [List.append_nil, List.getElem?_toArray, Nat.zero_add, List.getElem?_append_left cW]; exact hv
     ·rw [ch.at, cM] at hrel; rw [Nat.zero_add] at hrel ⊢; exact hrel
   ·obtain ⟨rfl, rfl, hT⟩ := h; obtain ⟨p, l, cs, h1, h2, h3, h4, h5, h6⟩ := hr; exact ⟨p, l, cs, h1, hAB _ h1 h2, h3, h4, h5, h6.1.trans hT, h6.2⟩
 | pf m' kk' b =>
   cases o <;> simp only [aA.aV] at h; obtain ⟨rfl, rfl, hT⟩ := h; obtain ⟨p, q, s, kb, seen, h1, h2, h3, h4, h5, h6, h7, h8⟩ := hr; exact ⟨p, q, s, kb, seen, h1, hAB _ h1 h2, h3, h4, h5, h6, h7, by rw [<- hT]; exact h8⟩
 | ar _ _ _ => cases ho
 | fwd _ _ => cases ho
 | OB _ _ => cases ho
 | qW _ _ _ => cases ho
 | dP => cases ho
 | gone => cases ho
theorem aA.fK {A B : Anchor} (hAB : ∀ b, ¬ A.K b -> ¬ B.K b) {ρ : af} {n m : Nat} {o o' : aA} {w : World} (h : aA.aV e e' σ o o') (ho : o'.owner = true) (hn : n = σ m) (hr : o.Rel e A ρ n w) :
    o'.Rel e' B (ρ.re σ) m w := aA.HG e e' σ (fun p _ h => hAB _ h) h ho hn hr
end
def eA (ρ : af) (h : aL) (S : List Nat) (b : Nat) : Prop := (∃ n o p, n ∈ S /\ ay h n = some o /\ o.owner = true /\ ρ n = some p /\ p.block = b) \/ (∃ n T ks e i, n ∈ S /\ ay h n = some (.ar T ks e) /\ ρ.fz.ar T i = some b)
def eQ (ρ ρE : af) (τ : Nat -> Nat) (news : List Nat) : af := ⟨fun n => if n ∈ news then ρE (τ n) else ρ n, ρE.fz⟩
theorem lg {ρ ρE : af} {τ : Nat -> Nat} {news : List Nat} {n : Nat} (h : n ∉ news) : eQ ρ ρE τ news n = ρ n := if_neg h
theorem Ed {ρ ρE : af} {τ : Nat -> Nat} {news : List Nat} {n : Nat} (h : n ∈ news) : eQ ρ ρE τ news n = ρE (τ n) := if_pos h
section
variable {env envE : Env} {w0 : Anchor} {ρ ρE : af} {h hE h' : aL} {w w' : World} {nx : Nat} {S news : List Nat} {τ : Nat -> Nat}
theorem az.L8 (H : az env w0 ρ h w) {b : Nat} (hb : ¬ (cF w ρ (eA ρ h S)).K b) : ¬ w0.K b := by
 intro hk; refine hb ⟨Nat.lt_of_lt_of_le (w0.lt b hk) H.below.size, ?_⟩; rintro (⟨n, o, p, _, hn, ho, hp, rfl⟩ | ⟨n, T, ks, e, i, _, hn, hb⟩)
 ·obtain ⟨q, bb, hq, hqK, _⟩ := (H.bk n o hn).place ho; rw [hp] at hq; injection hq with hq; subst hq; exact hqK hk
 ·exact (H.ar.own n T ks e i b hn hb).2 hk
theorem wk (hnx : ∀ n p, ρ n = some p -> n < nx) (hnew : ∀ n ∈ news, nx <= n) (hfz : Fz.le ρ.fz ρE.fz) : ρ.le (eQ ρ ρE τ news) := ⟨fun n p hp => by
 have h1 := hnx n p hp; rw [lg (fun hm => by have := hnew n hm; omega)]
 exact hp, hfz⟩
theorem az.out (H : az env w0 ρ h w) (hnx : ∀ n p, ρ n = some p -> n < nx) (hnew : ∀ n ∈ news, nx <= n) (HE : az envE (cF w ρ (eA ρ h S)) ρE hE w') (hfz : Fz.le ρ.fz ρE.fz)
    (h1 : ∀ n o, ay h' n = some o -> n ∉ S -> n ∉ news -> ay h n = some o)
    (h2 : ∀ n o, ay h' n = some o -> n ∈ S \/ n ∈ news -> o.Rel env w0 (eQ ρ ρE τ news) n w')
    (h3 : ∀ n o, ay h' n = some o -> n ∈ S \/ n ∈ news -> o.owner = true -> ∃ oE, ay hE (τ n) = some oE /\ oE.owner = true /\ eQ ρ ρE τ news n = ρE (τ n))
    (h4 : ∀ m n o o', ay h' m = some o -> ay h' n = some o' -> (m ∈ S \/ m ∈ news) -> (n ∈ S \/ n ∈ news) -> o.owner = true -> o'.owner = true -> τ m = τ n -> m = n)
    (h5 : ∀ n T ks e, ay h' n = some (.ar T ks e) -> n ∈ S \/ n ∈ news -> ∃ nE eE, ay hE nE = some (.ar T ks eE) /\ (eE.den envE).T = (e.den env).T)
    (h6 : ∀ T ks e, ay hE (dI T) = some (.ar T ks e) -> dI T ∈ S /\ ∃ ks' e', ay h' (dI T) = some (.ar T ks' e'))
    (h7 : ∀ T ks e, ay h (dI T) = some (.ar T ks e) -> ∃ ks' e', ay h' (dI T) = some (.ar T ks' e')) :
    az env w0 (eQ ρ ρE τ news) h' w' := by
 have hle : ρ.le (eQ ρ ρE τ news) := wk hnx hnew hfz; have hsz : w.heap.size <= w'.heap.size := HE.below.size
 have oldK : ∀ n o p, ay h n = some o -> n ∉ S -> o.owner = true -> ρ n = some p -> (cF w ρ (eA ρ h S)).K p.block := by
  intro n o p hn hS ho hp; obtain ⟨q, bb, hq, _, hqw⟩ := (H.bk n o hn).place ho; rw [hp] at hq; injection hq with hq; subst hq; refine ⟨(Array.getElem?_eq_some_iff.1 hqw).1, ?_⟩; rintro (⟨m, o', p', hm, hm', ho', hp', he⟩ | ⟨m, T, ks, e, i, hm, hm', hb⟩)
  ·exact hS (by rw [H.inj n m o o' p p' hn hm' ho ho' hp hp' he.symm]; exact hm)
  ·exact H.ar.apart m T ks e i _ n o p hm' hb hn ho hp rfl
 have arn : ∀ n T ks e, ay h n = some (.ar T ks e) -> n = dI T := fun n T ks e hn => H.bk n _ hn
 have oldM : ∀ n T ks e i c, ay h n = some (.ar T ks e) -> n ∉ S -> ρ.fz.ar T i = some c -> (cF w ρ (eA ρ h S)).K c := by
  intro n T ks e i c hn hS hc; refine ⟨(H.ar.own n T ks e i c hn hc).1, ?_⟩; rintro (⟨m, o', p', hm, hm', ho', hp', he⟩ | ⟨m, T', ks', e', i', hm, hm', hb⟩)
  ·exact H.ar.apart n T ks e i c m o' p' hn hc hm' ho' hp' he
  ·obtain ⟨hT, _⟩ := H.ar.inj n T ks e i m T' ks' e' i' c hn hm' hc hb; subst hT; exact hS (by rw [arn _ _ _ _ hn, <- arn _ _ _ _ hm']; exact hm)
 have newK : ∀ n o p, ay h' n = some o -> (n ∈ S \/ n ∈ news) -> o.owner = true -> eQ ρ ρE τ news n = some p -> ∃ oE, ay hE (τ n) = some oE /\ oE.owner = true /\ ρE (τ n) = some p /\ ¬ (cF w ρ (eA ρ h S)).K p.block := by
  intro n o p hn hS ho hp; obtain ⟨oE, ho1, ho2, ho3⟩ := h3 n o hn hS ho; rw [hp] at ho3; obtain ⟨q, bb, hq, hqK, _⟩ := (HE.bk (τ n) oE ho1).place ho2; rw [<- ho3] at hq; injection hq with hq; subst hq; exact ⟨oE, ho1, ho2, ho3.symm, hqK⟩
 have cases' : ∀ n, (n ∈ S \/ n ∈ news) \/ (n ∉ S /\ n ∉ news) := fun n => by
  by_cases a : n ∈ S
  ·exact .inl (.inl a)
  ·by_cases b : n ∈ news
   ·exact .inl (.inr b)
   ·exact .inr ⟨a, b⟩
 have oldmap : ∀ n, n ∉ news -> eQ ρ ρE τ news n = ρ n := fun n hn => lg hn; have arStay : ∀ T, dI T ∉ S -> ρE.fz.ar T = ρ.fz.ar T := fun T hS => HE.ar.stay T fun ks e hx => hS (h6 T ks e hx).1
 have arCase : ∀ n T ks e, ay h' n = some (.ar T ks e) -> (∃ nE eE, ay hE nE = some (.ar T ks eE) /\ (eE.den envE).T = (e.den env).T) \/ (n ∉ S /\ ay h n = some (.ar T ks e) /\ ρE.fz.ar T = ρ.fz.ar T) := by
  intro n T ks e hn; rcases cases' n with hS | ⟨hS, hN⟩
  ·exact .inl (h5 n T ks e hn hS)
  ·have hold := h1 n _ hn hS hN; exact .inr ⟨hS, hold, arStay T (by rw [<- arn _ _ _ _ hold]; exact hS)⟩
 refine ⟨⟨HE.below.os.trans H.below.os, HE.below.tape.trans H.below.tape, HE.below.output.trans H.below.output, Nat.le_trans H.below.size hsz, fun k hk => ?_⟩, fun n o hn => ?_, fun m n o o' p q hm hn ho ho' hp hq he => ?_, ?_, ⟨HE.fz.at_, fun b x n o p hb hn ho hp he => ?_, fun b x hb hk => ?_⟩⟩
 rotate_left 4
 ·rcases cases' n with hS | ⟨hS, hN⟩
  ·obtain ⟨oE, a1, a2, a3, a4⟩ := newK n o p hn hS ho hp; exact HE.fz.free b x (τ n) oE p hb a1 a2 a3 he
  ·rw [oldmap n hN] at hp; have hK := oldK n o p (h1 n o hn hS hN) hS ho hp; rw [he] at hK; obtain ⟨y, hy⟩ := HE.fz.iM b x hb hK; exact H.fz.free b y n o p hy (h1 n o hn hS hN) ho hp he
 ·have hkA : (cF w ρ (eA ρ h S)).K b := by
    refine Classical.byContradiction fun hc => H.L8 hc hk
  obtain ⟨y, hy⟩ := HE.fz.iM b x hb hkA; exact H.fz.iM b y hy hk
 rotate_left 3
 ·refine ⟨fun n T ks e hn => ?_, fun n T ks e i b hn hb => ?_, fun n T ks e i b m o q hn hb hm ho hq he => ?_, fun n T ks e i m T' ks' e' i' b hn hm hb hb' => ?_, fun n T ks e i b hn hb => ?_, fun T hT => ?_⟩
  ·rcases arCase n T ks e hn with ⟨nE, eE, g1, g2⟩ | ⟨hS, hold, har⟩
   ·have := HE.ar.cell nE T ks eE g1; have e2 : ∀ i j, (eE.den envE).at i j = (e.den env).at i j := fun i j => by unfold Dv.at; rw [g2]
    rw [g2] at this; refine ⟨this.1, fun i hi => ?_⟩; obtain ⟨b, vs, k1, k2, k3, k4⟩ := this.2 i hi; refine ⟨b, vs, k1, k2, k3, ?_⟩; rw [show (fun j => (e.den env).at i j) = fun j => (eE.den envE).at i j from funext fun j => (e2 i j).symm]; exact k4
   ·obtain ⟨g1, g2⟩ := H.ar.cell n T ks e hold; show (∀ i b, ρE.fz.ar T i = some b -> _) /\ ∀ i, _ -> ∃ b vs, ρE.fz.ar T i = some b /\ _; rw [har]; refine ⟨g1, fun i hi => ?_⟩; obtain ⟨b, vs, k1, k2, k3, k4⟩ := g2 i hi; exact ⟨b, vs, k1, (HE.below.block b (oldM n T ks e i b hold hS k1)).trans k2, k3, aJ.Rel.mono hfz (fun _ _ h => h) k4⟩
  ·rcases arCase n T ks e hn with ⟨nE, eE, g1, g2⟩ | ⟨hS, hold, har⟩
   ·obtain ⟨a, c⟩ := HE.ar.own nE T ks eE i b g1 hb; exact ⟨a, H.L8 c⟩
   ·have hb : ρE.fz.ar T i = some b := hb; rw [har] at hb; obtain ⟨a, c⟩ := H.ar.own n T ks e i b hold hb; exact ⟨Nat.lt_of_lt_of_le a hsz, c⟩
  ·rcases arCase n T ks e hn with ⟨nE, eE, g1, g2⟩ | ⟨hS, hold, har⟩
   ·rcases cases' m with hSm | ⟨hSm, hNm⟩
    ·obtain ⟨oE, a1, a2, a3, a4⟩ := newK m o q hm hSm ho hq; exact HE.ar.apart nE T ks eE i b _ oE q g1 hb a1 a2 a3 he
    ·rw [oldmap m hNm] at hq; have hK := oldK m o q (h1 m o hm hSm hNm) hSm ho hq; rw [he] at hK; exact (HE.ar.own nE T ks eE i b g1 hb).2 hK
   ·have hb : ρE.fz.ar T i = some b := hb; rw [har] at hb; rcases cases' m with hSm | ⟨hSm, hNm⟩
    ·obtain ⟨oE, a1, a2, a3, a4⟩ := newK m o q hm hSm ho hq; exact a4 (by rw [he]; exact oldM n T ks e i b hold hS hb)
    ·rw [oldmap m hNm] at hq; exact H.ar.apart n T ks e i b m o q hold hb (h1 m o hm hSm hNm) ho hq he
  ·have hb : ρE.fz.ar T i = some b := hb; have hb' : ρE.fz.ar T' i' = some b := hb'; rcases arCase n T ks e hn with ⟨nE, eE, g1, g2⟩ | ⟨hS, hold, har⟩
   ·rcases arCase m T' ks' e' hm with ⟨nE', eE', g1', g2'⟩ | ⟨hS', hold', har'⟩
    ·exact HE.ar.inj nE T ks eE i nE' T' ks' eE' i' b g1 g1' hb hb'
    ·rw [har'] at hb'; exact absurd (oldM m T' ks' e' i' b hold' hS' hb') (HE.ar.own nE T ks eE i b g1 hb).2
   ·rw [har] at hb; rcases arCase m T' ks' e' hm with ⟨nE', eE', g1', g2'⟩ | ⟨hS', hold', har'⟩
    ·exact absurd (oldM n T ks e i b hold hS hb) (HE.ar.own nE' T' ks' eE' i' b g1' hb').2
    ·rw [har'] at hb'; exact H.ar.inj n T ks e i m T' ks' e' i' b hold hold' hb hb'
  ·rcases arCase n T ks e hn with ⟨nE, eE, g1, g2⟩ | ⟨hS, hold, har⟩
   ·exact HE.ar.fz nE T ks eE i b g1 hb
   ·have hb : ρE.fz.ar T i = some b := hb; rw [har] at hb; show ρE.fz b = none; cases hz : ρE.fz b with
    | none => rfl
    | some x =>
      obtain ⟨y, hy⟩ := HE.fz.iM b x hz (oldM n T ks e i b hold hS hb); rw [H.ar.fz n T ks e i b hold hb] at hy; cases hy
  ·have hno : ∀ ks e, ay h (dI T) ≠ some (.ar T ks e) := fun ks e hx => by
     obtain ⟨ks', e', g⟩ := h7 T ks e hx; exact hT ks' e' g
   show ρE.fz.ar T = w0.ar T; rw [<- H.ar.stay T hno]
   by_cases hS : dI T ∈ S
   ·refine HE.ar.stay T fun ks e hx => ?_; obtain ⟨_, ks', e', g⟩ := h6 T ks e hx; exact hT ks' e' g
   ·exact arStay T hS
 ·have hkA : (cF w ρ (eA ρ h S)).K k := by
    refine Classical.byContradiction fun hc => H.L8 hc hk
  exact (HE.below.block k hkA).trans (H.below.block k hk)
 ·rcases cases' n with hS | ⟨hS, hN⟩
  ·exact h2 n o hn hS
  ·have hold := h1 n o hn hS hN; refine (H.bk n o hold).cU hle (fun p ho hp => ?_) (fun h0 _ => by rw [oldmap n hN]; exact h0)
   exact HE.below.block p.block (oldK n o p hold hS ho hp)
 ·rcases cases' m with hSm | ⟨hSm, hNm⟩
  ·obtain ⟨oE, a1, a2, a3, a4⟩ := newK m o p hm hSm ho hp; rcases cases' n with hSn | ⟨hSn, hNn⟩
   ·obtain ⟨oE', b1, b2, b3, b4⟩ := newK n o' q hn hSn ho' hq; exact h4 m n o o' hm hn hSm hSn ho ho' (HE.inj (τ m) (τ n) oE oE' p q a1 b1 a2 b2 a3 b3 he)
   ·rw [oldmap n hNn] at hq; have := oldK n o' q (h1 n o' hn hSn hNn) hSn ho' hq; rw [<- he] at this; exact absurd this a4
  ·rw [oldmap m hNm] at hp; have hKm := oldK m o p (h1 m o hm hSm hNm) hSm ho hp; rcases cases' n with hSn | ⟨hSn, hNn⟩
   ·obtain ⟨oE', b1, b2, b3, b4⟩ := newK n o' q hn hSn ho' hq; rw [he] at hKm; exact absurd hKm b4
   ·rw [oldmap n hNn] at hq; exact H.inj m n o o' p q (h1 m o hm hSm hNm) (h1 n o' hn hSn hNn) ho ho' hp hq he
end
structure Head where
 ov : List (Nat × SV)
 h : aQ
 m : Nat
 fs : aa
def sig (l : List (Nat × Nat)) (z : Nat) : Nat -> Nat := fun n =>
 match l with
 | [] => z
 | (a, b) :: r => cond (Nat.beq a n) b (sig r z n)
section
variable (e e' : Env) (σ : Nat -> Nat)
def nK (sl : List SV) : List (Nat × SV) -> Prop
 | [] => True
 | (j, y) :: r => (match nth sl j with | some x => SV.aV e e' σ x y | none => False) /\ nK sl r
def jE (o o' : aA) : Prop :=
 match o, o' with
 | .qW sz len cols, .qW sz' len' cols' => sz = sz' /\ (len.den e).I = (len'.den e').I /\ cols = cols' /\ ∀ bY ∈ cols, ∀ i : Nat, SV.aV e e' σ (bY.at (.il i)) (bY.at (.il i))
 | .ar T ks a, .ar T' ks' b => T = T' /\ ks = ks' /\ (a.den e).T = (b.den e').T
 | o, o' => o.owner = true /\ aA.aV e e' σ o o'
def mb (o' : aA) (n : Nat) : Nat := cond o'.mR n (σ n)
theorem kh {o' : aA} {n : Nat} (h : o'.owner = true) : mb σ o' n = σ n := by unfold mb; rw [kT h]; rfl
theorem GI {T : TypeId} {ks : aJ} {x : E} {n : Nat} : mb σ (.ar T ks x) n = n := rfl
def vT (hL : aQ) : aQ -> Prop
 | [] => True
 | (n, o') :: r => (match bZ hL (mb σ o' n) with | some o => jE e e' σ o o' | none => False) /\ vT hL r
theorem pD {sl : List SV} : ∀ {ov : List (Nat × SV)} {j : Nat} {y : SV}, nK e e' σ sl ov -> b9 ov j = some y -> ∃ x, sl[j]? = some x /\ SV.aV e e' σ x y
 | [], j, y, _, h => by cases h
 | (i, z) :: r, j, y, he, h => by
   unfold nK at he; unfold b9 at h; cases hb : Nat.beq i j with
   | true =>
     rw [hb] at h; obtain rfl := Nat.eq_of_beq_eq_true hb; simp only [cond_true, Option.some.injEq] at h; subst h; cases hn : nth sl i with
     | none => rw [hn] at he; exact he.1.elim
     | some x => rw [hn] at he; exact ⟨x, by rw [<- s4]; exact hn, he.1⟩
   | false => rw [hb] at h; exact pD he.2 h
theorem pP {hL : aQ} : ∀ {hp : aQ} {n : Nat} {o' : aA}, vT e e' σ hL hp -> bZ hp n = some o' -> ∃ o, bZ hL (mb σ o' n) = some o /\ jE e e' σ o o'
 | [], n, o', _, h => by cases h
 | (k, z) :: r, n, o', he, h => by
   unfold vT at he; unfold bZ at h; cases hb : Nat.beq k n with
   | true =>
     rw [hb] at h; obtain rfl := Nat.eq_of_beq_eq_true hb; simp only [cond_true, Option.some.injEq] at h; subst h; cases hn : bZ hL (mb σ z k) with
     | none => rw [hn] at he; exact he.1.elim
     | some x => rw [hn] at he; exact ⟨x, rfl, he.1⟩
   | false => rw [hb] at h; exact pP he.2 h
end
theorem nA {l : List (Nat × Nat)} {z n : Nat} (h : sig l z n ≠ z) : (n, sig l z n) ∈ l := by
 induction l with
 | nil => exact absurd rfl h
 | cons x r ih =>
   obtain ⟨a, b⟩ := x; unfold sig at h ⊢; cases hb : Nat.beq a n with
   | true =>
     obtain rfl := Nat.eq_of_beq_eq_true hb; simp
   | false =>
     rw [hb] at h; exact List.mem_cons_of_mem _ (ih h)
theorem ia : ∀ {l : List (Nat × Nat)} {a b k : Nat}, allDiff (l.map (·.2)) = true -> (a, k) ∈ l -> (b, k) ∈ l -> a = b
 | [], a, b, k, _, h, _ => by cases h
 | (x, y) :: r, a, b, k, hd, ha, hb => by
   simp only [List.map_cons, allDiff, Bool.and_eq_true, Bool.not_eq_true'] at hd
   have hno : ∀ c, (c, y) ∉ r := fun c hc => by
    have := cQ.2 (List.mem_map.2 ⟨(c, y), hc, rfl⟩ : y ∈ r.map (·.2)); rw [this] at hd; exact absurd hd.1 (by simp)
   rcases List.mem_cons.1 ha with e | e
   ·injection e with e1 e2; subst e1; subst e2; rcases List.mem_cons.1 hb with e | e
    ·injection e with e1 e2; exact e1.symm
    ·exact absurd e (hno b)
   ·rcases List.mem_cons.1 hb with e' | e'
    ·injection e' with e1 e2; subst e1; subst e2; exact absurd e (hno a)
    ·exact ia hd.2 e e'
section
variable {e e' : Env} {A : Anchor} {ρ : af} {w : World}
theorem RB {σ : Nat -> Nat} {n m : Nat} {o o' : aA} (h : jE e e' σ o o') (hn : n = mb σ o' m) (hg : o' = .gone \/ o'.owner = true \/ (∃ a b c, o' = .qW a b c) \/ ∃ a b c, o' = .ar a b c) (hr : o.Rel e A ρ n w) : o'.Rel e' A (ρ.re σ) m w := by
 rcases hg with rfl | ho | ⟨a, b, c, rfl⟩ | ⟨a, b, c, rfl⟩
 ·trivial
 ·have h2 : aA.aV e e' σ o o' := by
    unfold jE at h; split at h
    ·cases ho
    ·cases ho
    ·exact h.2
  exact aA.fK e e' σ (fun _ h => h) h2 ho (hn.trans (kh σ ho)) hr
 ·cases o with
  | qW sz len cols =>
    simp only [jE] at h; obtain ⟨rfl, hl, rfl, hcols⟩ := h; have hn : n = σ m := hn; subst hn; obtain ⟨p, h1, h2, h3, h4⟩ := hr; refine ⟨p, h1, by rw [<- hl]; exact h2, h3, ?_⟩
    rcases h4 with ⟨ht, h4, h5⟩ | ⟨ht, h4, h6, h5⟩
    ·refine .inl ⟨ht, h4, fun i hi j bY hj => ?_⟩; rw [<- hl] at hi; obtain ⟨v, hv, hrv⟩ := h5 i hi j bY hj; exact ⟨v, hv, SV.fK e e' σ (hcols bY (List.mem_of_getElem? hj) i) hrv⟩
    ·refine .inr ⟨ht, h4, h6, fun i hi j bY hj => ?_⟩; rw [<- hl] at hi; obtain ⟨v, hv, hrv⟩ := h5 i hi j bY hj; exact ⟨v, hv, SV.fK e e' σ (hcols bY (List.mem_of_getElem? hj) i) hrv⟩
  | _ => simp only [jE, aA.aV] at h; exact h.2.elim
 ·have hn : n = m := hn; subst hn; cases o with
  | ar T ks x => simp only [jE] at h; obtain ⟨rfl, _⟩ := h; exact hr
  | _ => simp only [jE, aA.aV] at h; exact h.2.elim
def bS : aA -> Bool
 | .cells .. => true
 | .row .. => true
 | .qW .. => true
 | .map .. => true
 | .ar .. => true
 | .k7 .. => true
 | .pf .. => true
 | .rA .. => true
 | .chan .. => true
 | .gone => true
 | _ => false
def CR (hL H : aQ) : Bool := hL.all fun x =>
 match x.2 with
 | .ar T _ _ =>
   match bZ H (dI T) with
   | some (.ar T' _ _) => Nat.beq T T'
   | _ => false
 | _ => true
theorem KT {hL H : aQ} (h : CR hL H = true) {n : Nat} {T : TypeId} {ks : aJ} {x : E} (hn : bZ hL n = some (.ar T ks x)) : ∃ ks' x', bZ H (dI T) = some (.ar T ks' x') := by
 have hm : ∀ {c : aQ}, bZ c n = some (.ar T ks x) -> (n, aA.ar T ks x) ∈ c := by
  intro c
  induction c with
  | nil => intro h; cases h
  | cons y r ih =>
    intro h; obtain ⟨k, z⟩ := y; unfold bZ at h; cases hb : Nat.beq k n with
    | true => rw [hb] at h; simp only [cond_true, Option.some.injEq] at h; subst h; rw [Nat.eq_of_beq_eq_true hb]; exact List.mem_cons_self ..
    | false => rw [hb] at h; exact List.mem_cons_of_mem _ (ih h)
 have := List.all_eq_true.1 h _ (hm hn); simp only at this; split at this
 ·rename_i T' ks' x' hg; rw [Nat.eq_of_beq_eq_true this]; rw [Nat.eq_of_beq_eq_true this] at hg; exact ⟨ks', x', hg⟩
 ·cases this
def n7 : Nat -> Nat -> List SV
 | _, 0 => []
 | c, n + 1 => .val c (.il 0) :: n7 (c + 1) n
def Jn : Nat -> List (FuncId × Nat) -> List (FuncId × List SV)
 | _, [] => []
 | c, (q, n) :: r => (q, n7 c n) :: Jn (c + n) r
theorem y6 {e e' : Env} {ρ ρ' : af} (hv : ∀ c i, e'.val c i = e.val c i) : ∀ {n c : Nat} {vs : List Value}, SV.aD e ρ (n7 c n) vs -> SV.aD e' ρ' (n7 c n) vs
 | 0, c, vs, h => h
 | n + 1, c, vs, h => by
   simp only [n7, SV.aD, SV.Rel, hv] at h ⊢; obtain ⟨v, r, h1, h2, h3⟩ := h; exact ⟨v, r, h1, h2, y6 hv h3⟩
theorem vv {e e' : Env} {ρ ρ' : af} (hv : ∀ c i, e'.val c i = e.val c i) : ∀ {l : List (FuncId × Nat)} {c : Nat} {ds : List Deferred}, eZ e ρ (Jn c l) ds -> eZ e' ρ' (Jn c l) ds
 | [], c, ds, h => by rw [h.nil_eq]; exact .nil
 | (q, n) :: l, c, ds, h => by
   cases h with
   | cons h1 h2 => exact .cons (y6 hv h1) (vv hv h2)
def ig (ds : List Deferred) : List Value := ds.flatMap fun d => d.args.toList ++ (match d.target with | .fn _ cs => cs.toList | _ => [])
def rU : List (FuncId × List SV) -> List (FuncId × Nat) -> Bool
 | [], [] => true
 | (q, l) :: r, (q', n) :: r' => Nat.beq q q' && Nat.beq l.length n && rU r r'
 | _, _ => false
theorem zm {e : Env} {ρ : af} : ∀ {vs : List Value} {c : Nat}, (∀ (j : Nat) (v : Value), vs[j]? = some v -> e.val (c + j) 0 = v) -> SV.aD e ρ (n7 c vs.length) vs
 | [], c, h => rfl
 | v :: vs, c, h => by
   refine ⟨v, vs, rfl, ?_, zm fun j u hu => ?_⟩
   ·have := h 0 v rfl; show v = e.val c 0; exact this.symm
   ·have := h (j + 1) u (by simpa using hu)
    rw [show c + 1 + j = c + (j + 1) by omega]; exact this
theorem ze {e : Env} {ρ : af} : ∀ {n c : Nat} {vs : List Value}, SV.aD e ρ (n7 c n) vs -> vs.length = n /\ ∀ (j : Nat) (v : Value), vs[j]? = some v -> e.val (c + j) 0 = v
 | 0, c, vs, h => by
   have : vs = [] := h; subst this; exact ⟨rfl, fun j v hv => by simp at hv⟩
 | n + 1, c, vs, h => by
   simp only [n7, SV.aD, SV.Rel] at h; obtain ⟨v, r, rfl, h2, h3⟩ := h; obtain ⟨g1, g2⟩ := ze h3; refine ⟨by simp [g1], fun j u hu => ?_⟩
   cases j with
   | zero => simp at hu; subst hu; exact h2.symm
   | succ j => rw [show c + (j + 1) = c + 1 + j by omega]; exact g2 j u (by simpa using hu)
theorem Ic {env e : Env} {ρ ρ' : af} : ∀ {df : List (FuncId × List SV)} {l : List (FuncId × Nat)} {c : Nat} {ds : List Deferred}, rU df l = true -> eZ env ρ df ds -> (∀ (j : Nat) (v : Value), (ig ds)[j]? = some v -> e.val (c + j) 0 = v) -> eZ e ρ' (Jn c l) ds
 | [], [], c, ds, _, h, _ => by rw [h.nil_eq]; exact .nil
 | [], _ :: _, c, ds, hf, _, _ => by cases hf
 | _ :: _, [], c, ds, hf, _, _ => by cases hf
 | (q, x) :: df, (q', n) :: l, c, ds, hf, h, hv => by
   simp only [rU, Bool.and_eq_true] at hf; obtain ⟨⟨f1, f2⟩, f3⟩ := hf; obtain rfl := Nat.eq_of_beq_eq_true f1; have f2 := Nat.eq_of_beq_eq_true f2; cases h with
   | @cons _ _ cs vs ds' r h1 h2 =>
     have hl : (vs ++ cs).length = n := by rw [h1.length, f2]
     have e1 : ig ({ target := .fn (.func q) cs.toArray, args := vs.toArray } :: r) = (vs ++ cs) ++ ig r := by simp [ig]
     rw [e1] at hv; refine .cons (by rw [<- hl]; exact zm fun j v hj => hv j v (by rw [List.getElem?_append_left (List.getElem?_eq_some_iff.1 hj).1]; exact hj)) (Ic f3 h2 fun j v hj => ?_)
     have := hv (n + j) v (by rw [List.getElem?_append_right (by omega), hl, Nat.add_sub_cancel_left]; exact hj)
     rw [Nat.add_assoc]; exact this
theorem Ee {env e : Env} {ρ ρ' ρE : af} (hle : ρ.le ρ') : ∀ {df : List (FuncId × List SV)} {l : List (FuncId × Nat)} {c : Nat} {ds ds' : List Deferred}, rU df l = true -> eZ env ρ df ds -> (∀ (j : Nat) (v : Value), (ig ds)[j]? = some v -> e.val (c + j) 0 = v) -> eZ e ρE (Jn c l) ds' -> eZ env ρ' df ds'
 | [], [], c, ds, ds', _, _, _, h => by rw [h.nil_eq]; exact .nil
 | [], _ :: _, c, ds, ds', hf, _, _, _ => by cases hf
 | _ :: _, [], c, ds, ds', hf, _, _, _ => by cases hf
 | (q, x) :: df, (q', n) :: l, c, ds, ds', hf, h, hv, h' => by
   simp only [rU, Bool.and_eq_true] at hf; obtain ⟨⟨f1, f2⟩, f3⟩ := hf; obtain rfl := Nat.eq_of_beq_eq_true f1; have f2 := Nat.eq_of_beq_eq_true f2; cases h with
   | @cons _ _ cs vs _ r h1 h2 =>
     have hl : (vs ++ cs).length = n := by rw [h1.length, f2]
     have e1 : ig ({ target := .fn (.func q) cs.toArray, args := vs.toArray } :: r) = (vs ++ cs) ++ ig r := by simp [ig]
     rw [e1] at hv; cases h' with
     | @cons _ _ cs' vs' _ r' k1 k2 =>
       obtain ⟨g1, g2⟩ := ze k1
       have hsame : vs' ++ cs' = vs ++ cs := by
        apply List.ext_getElem?
        intro j
        by_cases hj : j < n
        ·have a1 := g2 j _ (List.getElem?_eq_getElem (by omega : j < (vs' ++ cs').length))
         have a2 := hv j _ (by rw [List.getElem?_append_left (by omega)]; exact List.getElem?_eq_getElem (by omega : j < (vs ++ cs).length))
         rw [List.getElem?_eq_getElem (by omega), List.getElem?_eq_getElem (by omega), <- a1, <- a2]
        ·rw [List.getElem?_eq_none (by omega), List.getElem?_eq_none (by omega)]
       exact .cons (by rw [hsame]; exact h1.mono hle) (Ee hle f3 h2 (fun j v hj => by
        have := hv (n + j) v (by rw [List.getElem?_append_right (by omega), hl, Nat.add_sub_cancel_left]; exact hj)
        rw [Nat.add_assoc]; exact this) k2)
def GB : List (FuncId × Nat) -> Nat
 | [] => 0
 | (_, n) :: r => n + GB r
theorem wW {env : Env} {ρ : af} : ∀ {df : List (FuncId × List SV)} {l : List (FuncId × Nat)} {ds : List Deferred}, rU df l = true -> eZ env ρ df ds -> (ig ds).length = GB l
 | [], [], ds, _, h => by rw [h.nil_eq]; rfl
 | [], _ :: _, ds, hf, _ => by cases hf
 | _ :: _, [], ds, hf, _ => by cases hf
 | (q, x) :: df, (q', n) :: l, ds, hf, h => by
   simp only [rU, Bool.and_eq_true] at hf; have f2 := Nat.eq_of_beq_eq_true hf.1.2; cases h with
   | @cons _ _ cs vs _ r h1 h2 =>
     have hl : (vs ++ cs).length = n := by rw [h1.length, f2]
     have e1 : ig ({ target := .fn (.func q) cs.toArray, args := vs.toArray } :: r) = (vs ++ cs) ++ ig r := by simp [ig]
     rw [e1, List.length_append, hl, wW hf.2 h2]; rfl
def adW : SV -> SV -> Bool
 | .val c a, .val d b => Nat.beq c d && a.same b
 | _, _ => false
def H4 : List SV -> List SV -> Bool
 | [], [] => true
 | x :: l, y :: m => adW x y && H4 l m
 | _, _ => false
def xu : List (FuncId × List SV) -> List (FuncId × List SV) -> Bool
 | [], [] => true
 | (q, l) :: r, (q', l') :: r' => Nat.beq q q' && H4 l l' && xu r r'
 | _, _ => false
theorem B4 : ∀ {l m : List SV}, H4 l m = true -> l = m
 | [], [], _ => rfl
 | [], _ :: _, h => by cases h
 | _ :: _, [], h => by cases h
 | x :: l, y :: m, h => by
   simp only [H4, Bool.and_eq_true] at h
   have : x = y := by
    have h := h.1; unfold adW at h; split at h
    ·rw [Bool.and_eq_true] at h; rw [Nat.eq_of_beq_eq_true h.1, E.ax h.2]
    ·cases h
   rw [this, B4 h.2]
theorem zR : ∀ {l m : List (FuncId × List SV)}, xu l m = true -> l = m
 | [], [], _ => rfl
 | [], _ :: _, h => by cases h
 | _ :: _, [], h => by cases h
 | (q, l) :: r, (q', l') :: r', h => by
   simp only [xu, Bool.and_eq_true] at h; rw [Nat.eq_of_beq_eq_true h.1.1, B4 h.1.2, zR h.2]
theorem rN {frL : Fr} {hL : aQ} {nxL : Nat} {a : Act} (hs : Sat e A ρ frL (bg hL) nxL a w) {H : Head} {N : Nat} {l : List (Nat × Nat)} (hov : nK e e' (sig l nxL) frL.sl H.ov) (hhp : vT e e' (sig l nxL) hL H.h)
    (hobj : H.h.all (fun x => bS x.2) = true) (hinj : allDiff (l.map (·.2)) = true) (cW : l.all (fun x => Nat.blt x.1 H.m && Nat.blt x.2 nxL) = true) {iN : List (FuncId × List SV)} (hdf : frL.df = iN) (hdv : ∀ ρ ρ' ds, eZ e ρ iN ds -> eZ e' ρ' iN ds) (hN : frL.sl.length = N) (hars : CR hL H.h = true) :
    Sat e' A (ρ.re (sig l nxL)) ⟨et H.ov (fun j => (a.tmps.toList[j]?).getD undef) 0 N, iN⟩ (bg H.h) H.m a w := by
 have hzz : ρ nxL = none := by
  cases h : ρ nxL with
  | none => rfl
  | some p => have := hs.nx _ _ h; omega
 have hal : a.tmps.toList.length = N := by rw [hs.sl.length, hN]
 have nz : ∀ {n : Nat} {p : Pl}, ρ (sig l nxL n) = some p -> sig l nxL n ≠ nxL := fun hp h => by rw [h, hzz] at hp; cases hp
 have own : ∀ {o1 o : aA}, jE e e' (sig l nxL) o1 o -> o.owner = true -> o1.owner = true /\ aA.aV e e' (sig l nxL) o1 o := by
  intro o1 o h ho; unfold jE at h; split at h
  ·cases ho
  ·cases ho
  ·exact h
 have getO : ∀ {n : Nat} {o : aA}, ay (bg H.h) n = some o -> o.owner = true -> ∃ o1, ay (bg hL) (sig l nxL n) = some o1 /\ o1.owner = true /\ jE e e' (sig l nxL) o1 o := fun hn ho => by
  obtain ⟨o1, g1, g2⟩ := pP e e' (sig l nxL) hhp hn; rw [kh _ ho] at g1; exact ⟨o1, g1, (own g2 ho).1, g2⟩
 have getA : ∀ {n : Nat} {T : TypeId} {ks : aJ} {x : E}, ay (bg H.h) n = some (.ar T ks x) -> ∃ x1, ay (bg hL) n = some (.ar T ks x1) /\ (x1.den e).T = (x.den e').T := fun {n T ks x} hn => by
  obtain ⟨o1, g1, g2⟩ := pP e e' (sig l nxL) hhp hn; rw [GI] at g1; cases o1 with
  | ar T1 ks1 x1 => simp only [jE] at g2; obtain ⟨rfl, rfl, g3⟩ := g2; exact ⟨x1, g1, g3⟩
  | _ => simp only [jE, aA.aV] at g2; exact g2.2.elim
 have habs : lA e' A (ρ.re (sig l nxL)) (bg H.h) w := by
  have hA := hs.hs.ar; refine ⟨fun n T ks x hn => ?_, fun n T ks x i b hn hb => ?_, fun n T ks x i b m o q hn hb hm ho hq => ?_, fun n T ks x i m T' ks' x' i' b hn hm hb hb' => ?_, fun n T ks x i b hn hb => ?_, fun T hT => ?_⟩
  ·obtain ⟨x1, g1, g2⟩ := getA hn; have := hA.cell n T ks x1 g1; have e2 : ∀ i j, (x1.den e).at i j = (x.den e').at i j := fun i j => by unfold Dv.at; rw [g2]
   rw [g2] at this; refine ⟨this.1, fun i hi => ?_⟩; obtain ⟨b, vs, k1, k2, k3, k4⟩ := this.2 i hi; refine ⟨b, vs, k1, k2, k3, ?_⟩; rw [show (fun j => (x.den e').at i j) = fun j => (x1.den e).at i j from funext fun j => (e2 i j).symm]; exact k4
  ·obtain ⟨x1, g1, g2⟩ := getA hn; exact hA.own n T ks x1 i b g1 hb
  ·obtain ⟨x1, g1, g2⟩ := getA hn; obtain ⟨o1, k1, k2, _⟩ := getO hm ho; exact hA.apart n T ks x1 i b _ o1 q g1 hb k1 k2 hq
  ·obtain ⟨x1, g1, g2⟩ := getA hn; obtain ⟨x2, k1, k2⟩ := getA hm; exact hA.inj n T ks x1 i m T' ks' x2 i' b g1 k1 hb hb'
  ·obtain ⟨x1, g1, g2⟩ := getA hn; exact hA.fz n T ks x1 i b g1 hb
  ·refine hA.stay T fun ks x hx => ?_; obtain ⟨ks', x', g⟩ := KT hars hx; exact hT ks' x' g
 have hfz : Ct A (ρ.re (sig l nxL)) (bg H.h) w := ⟨hs.hs.fz.at_, fun b x n o p hb hn ho hp => (getO hn ho).elim fun o1 g => hs.hs.fz.free b x _ o1 p hb g.1 g.2.1 hp, hs.hs.fz.iM⟩; refine ⟨⟨hs.hs.below, fun n o hn => ?_, fun m n o o' p q hm hn ho ho' hp hq he => ?_, habs, hfz⟩, ?_, ?_, fun n p hp => ?_⟩
 ·obtain ⟨o2, hg, hent⟩ := pP e e' (sig l nxL) hhp hn
  have hho : bS o = true := by
   have : ∀ {c : aQ}, bZ c n = some o -> c.all (fun x => bS x.2) = true -> bS o = true := by
    intro c
    induction c with
    | nil => intro h; cases h
    | cons x r ih =>
      intro h ha; obtain ⟨k, z⟩ := x; simp only [List.all_cons, Bool.and_eq_true] at ha; unfold bZ at h; cases hb : Nat.beq k n with
      | true => rw [hb] at h; simp only [cond_true, Option.some.injEq] at h; subst h; exact ha.1
      | false => rw [hb] at h; exact ih h ha.2
   exact this hn hobj
  refine RB hent rfl ?_ (hs.hs.bk _ o2 hg); cases o with
  | cells _ _ => exact .inr (.inl rfl)
  | row _ _ _ _ _ => exact .inr (.inl rfl)
  | map _ _ _ _ _ => exact .inr (.inl rfl)
  | k7 _ _ _ _ _ => exact .inr (.inl rfl)
  | pf _ _ _ => exact .inr (.inl rfl)
  | rA _ _ _ => exact .inr (.inl rfl)
  | ar a b c => exact .inr (.inr (.inr ⟨a, b, c, rfl⟩))
  | chan _ => exact .inr (.inl rfl)
  | qW a b c => exact .inr (.inr (.inl ⟨a, b, c, rfl⟩))
  | gone => exact .inl rfl
  | _ => cases hho
 ·obtain ⟨o1, g1, Zn, ent1⟩ := getO hm ho; obtain ⟨o2, g2, ow2, ent2⟩ := getO hn ho'; have hσ := hs.hs.inj _ _ o1 o2 p q g1 g2 Zn ow2 hp hq he; have m1 := nA (nz hp); have m2 := nA (nz hq); rw [hσ] at m1; exact ia hinj m1 m2
 ·refine sL (vs := a.tmps.toList) (fun j v hv => ?_) a.tmps.toList 0 N (fun k => by rw [Nat.zero_add]) hal
  cases ho : b9 H.ov j with
  | none => show (a.tmps.toList[j]?).getD undef = v; rw [hv]; rfl
  | some y =>
    obtain ⟨x, hx, hent⟩ := pD e e' (sig l nxL) hov ho; obtain ⟨v', hv', hr⟩ := hs.sl.get hx; rw [hv] at hv'; injection hv' with hv'; subst hv'; exact SV.fK e e' (sig l nxL) hent hr
 ·have := hs.df; rw [hdf] at this; exact hdv _ _ _ this
 ·have hnz : sig l nxL n ≠ nxL := fun h => by
    have hp' : ρ (sig l nxL n) = some p := hp; rw [h, hzz] at hp'; cases hp'
  have := List.all_eq_true.1 cW _ (nA hnz); simp only [Bool.and_eq_true] at this; have h1 := this.1; unfold Nat.blt at h1; exact Nat.le_of_ble_eq_true h1
end
structure HA (e e' : Env) (q : bR) (H : Head) (l : List (Nat × Nat)) (cU fixed : List Nat) (u : Nat -> Value) (iN : List (FuncId × List SV)) : Prop where
 ov : nK e e' (sig l q.nx) q.fr.sl H.ov
 hp : vT e e' (sig l q.nx) q.h H.h
 inj : allDiff (l.map (·.2)) = true
 lt : l.all (fun x => Nat.blt x.1 H.m && Nat.blt x.2 q.nx) = true
 df : q.fr.df = iN
 dv : ∀ ρ ρ' ds, eZ e ρ iN ds -> eZ e' ρ' iN ds
 cU : ∀ j ∈ cU, nth q.fr.sl j = some (.B1 (u j))
 fixed : ∀ k ∈ fixed, sig l q.nx k = k
 B2 : CR q.h H.h = true
structure tH (env : Env) (q q' : bR) : Prop where
 nx : q'.nx = q.nx
 len : q'.fr.sl.length = q.fr.sl.length
 sat : ∀ (A : Anchor) ρ (a : Act) w, Sat env A ρ q.fr (bg q.h) q.nx a w -> ∃ ρ', ρ.le ρ' /\ Sat env A ρ' q'.fr (bg q'.h) q'.nx a w
theorem tH.refl {env : Env} (q : bR) : tH env q q := ⟨rfl, rfl, fun A ρ a w hs => ⟨ρ, af.le_refl ρ, hs⟩⟩
theorem tH.trans {env : Env} {a b c : bR} (h : tH env a b) (k : tH env b c) : tH env a c := ⟨k.nx.trans h.nx, k.len.trans h.len, fun A ρ x w hs => by
 obtain ⟨ρ1, h1, h2⟩ := h.sat A ρ x w hs; obtain ⟨ρ2, k1, k2⟩ := k.sat A ρ1 x w h2
 exact ⟨ρ2, af.le_trans h1 k1, k2⟩⟩
theorem EC {P : Program} (hP : Plain P) (hM : P.follows .mixedOrders = true) {f : FuncId} {c : Code} (hfit : lR P f (bK c)) {N : Nat} {heads : Nat -> Head} {env : Nat -> Env} {A : Anchor} {n : Nat} {mode : Nat -> Nat -> Prop}
    {X : dF} (hX : ∀ i, i <= n -> eJ P (env i) A (X.cR P)) {fuel np : Nat} {js : List Nat} {leaves : Nat -> (Nat -> Value) -> List bR} {cU fixed : List Nat} {u0 : Nat -> Value} {iN : List (FuncId × List SV)} {ρ0 : af} {Q : Exit -> Act -> World -> Prop}
    (hpaths : ∀ i μ u, mode i μ -> ik P X fuel (.code f c ⟨et (heads μ).ov u 0 N, iN⟩) (heads μ).h (heads μ).m np (heads μ).fs js = .ok (leaves μ u))
    (As : ∀ i μ, mode i μ -> i <= n -> (heads μ).fs.aB (env i))
    (hobj : ∀ i μ, mode i μ -> (heads μ).h.all (fun x => bS x.2) = true)
    (hlen : ∀ i μ u, mode i μ -> ∀ q ∈ leaves μ u, q.ex = .normal -> q.fr.sl.length = N)
    (zk : ∀ i μ u, mode i μ -> i <= n -> (∀ j ∈ cU, u j = u0 j) -> ∀ q ∈ leaves μ u, q.fs.aB (env i) -> (∀ e ∈ q.vcs, e.den (env i)) /\
     (q.ex = .normal -> i < n /\ ∃ μ' l q', mode (i + 1) μ' /\ tH (env i) q q' /\ HA (env i) (env (i + 1)) q' (heads μ') l cU fixed u iN))
    (hexit : ∀ i μ u ρ a' w', mode i μ -> i <= n -> ∀ q ∈ leaves μ u, q.fs.aB (env i) -> q.ex ≠ .normal -> (∀ j ∈ cU, u j = u0 j) -> ((∀ k ∈ fixed, ∀ p, ρ0 k = some p -> ρ k = some p) /\ Fz.le ρ0.fz ρ.fz) ->
     Sat (env i) A ρ q.fr (bg q.h) q.nx a' w' -> Q q.ex.den a' w')
    {μ0 : Nat} (tJ : mode 0 μ0) {a : Act} {w : World} (hs : Sat (env 0) A ρ0 ⟨et (heads μ0).ov u0 0 N, iN⟩ (bg (heads μ0).h) (heads μ0).m a w) : (Code.loop c).wp P Q a w := by
 let I : Nat -> Act -> World -> Prop := fun r a' w' => ∃ i μ ρ u, i + r = n /\ mode i μ /\ (∀ j ∈ cU, u j = u0 j) /\ ((∀ k ∈ fixed, ∀ p, ρ0 k = some p -> ρ k = some p) /\ Fz.le ρ0.fz ρ.fz) /\
  Sat (env i) A ρ ⟨et (heads μ).ov u 0 N, iN⟩ (bg (heads μ).h) (heads μ).m a' w'
 refine DP I ?_ n a w ⟨0, μ0, ρ0, u0, by omega, tJ, fun _ _ => rfl, ⟨fun _ _ _ h => h, Fz.le_refl _⟩, hs⟩
 rintro r a' w' ⟨i, μ, ρ, u, hir, hmode, hkeep, hfix, hsat⟩; refine ku hP hM (hX i (by omega)) hfit (hpaths i μ u hmode) (As i μ hmode (by omega)) hsat fun q hq hqf => ?_
 obtain ⟨hv, hn⟩ := zk i μ u hmode (by omega) hkeep q hq hqf
 refine ⟨hv, fun ρ' a2 w2 hle hs2 => ?_⟩; have hfix' : (∀ k ∈ fixed, ∀ p, ρ0 k = some p -> ρ' k = some p) /\ Fz.le ρ0.fz ρ'.fz := ⟨fun k hk p hp => hle k p (hfix.1 k hk p hp), Fz.le_trans hfix.2 hle.fz⟩
 by_cases hex : q.ex = .normal
 ·obtain ⟨hin, μ', l, q', hm', hth, ht⟩ := hn hex; obtain ⟨ρ3, hle3, hs3⟩ := hth.sat A ρ' a2 w2 hs2; rw [hex]; show ∃ m, r = m + 1 /\ I m a2 w2; refine ⟨r - 1, by omega, i + 1, μ', ρ3.re (sig l q'.nx), _, by omega, hm', fun j hj => ?_, ⟨fun k hk p hp => ?_, Fz.le_trans hfix'.2 hle3.fz⟩, rN hs3 ht.ov ht.hp (hobj _ _ hm') ht.inj ht.lt ht.df ht.dv (hth.len.trans (hlen i μ u hmode q hq hex)) ht.B2⟩
  ·obtain ⟨v, hv, hr⟩ := hs3.sl.get (by rw [<- s4]; exact ht.cU j hj)
   have hvu : v = u j := hr; show (a2.tmps.toList[j]?).getD undef = u0 j; rw [hv, hvu]; exact hkeep j hj
  ·show ρ3 (sig l q'.nx k) = some p; rw [ht.fixed k hk]; exact hle3 k p (hfix'.1 k hk p hp)
 ·have hQ := hexit i μ u ρ' a2 w2 hmode (by omega) q hq hqf hex hkeep hfix' hs2
  cases hqe : q.ex with
  | normal => exact absurd hqe hex
  | exit m => rw [hqe] at hQ; exact hQ
  | ret => rw [hqe] at hQ; exact hQ
def Cq : List (Nat × SV) -> List SV -> List SV
 | [], l => l
 | (j, y) :: r, l => (Cq r l).set j y
theorem tL : ∀ {o : List (Nat × SV)} {l : List SV}, (Cq o l).length = l.length
 | [], _ => rfl
 | (j, y) :: r, l => by simp [Cq, tL (o := r)]
theorem DE : ∀ {o : List (Nat × SV)} {l : List SV} {j : Nat} {x : SV}, (Cq o l)[j]? = some x -> (∃ y, b9 o j = some y /\ x = y) \/ (b9 o j = none /\ l[j]? = some x)
 | [], l, j, x, h => .inr ⟨rfl, h⟩
 | (i, y) :: r, l, j, x, h => by
   unfold Cq at h; rw [List.getElem?_set] at h; unfold b9
   by_cases e : i = j
   ·subst e; rw [if_pos rfl] at h; split at h
    ·simp only [Option.some.injEq] at h; exact .inl ⟨y, by simp, h.symm⟩
    ·cases h
   ·rw [if_neg e] at h; have hb : Nat.beq i j = false := by rw [Bool.eq_false_iff]; intro he; exact e (Nat.eq_of_beq_eq_true he)
    rw [hb]; exact DE h
def gR : List (Nat × aA) -> aL -> aL
 | [], h => h
 | (n, o) :: r, h => gR r (bf h n o)
def C7 : List (Nat × aA) -> Prog Unit
 | [] => .ret ()
 | (n, o) :: r => do iG n o; C7 r
theorem wA {env : Env} : ∀ {l : List (Nat × aA)} {h h' : aL} {b : Unit}, (C7 l).bx env h b h' ↔ h' = gR l h
 | [], h, h', b => by simp only [C7, aT, gR]; exact ⟨fun h => h.2.symm, fun h => ⟨trivial, h.symm⟩⟩
 | (n, o) :: r, h, h', b => by
   simp only [C7, run_bind, bD, gR]; constructor
   ·rintro ⟨_, h1, rfl, h2⟩; exact wA.1 h2
   ·intro h2; exact ⟨(), _, rfl, wA.2 h2⟩
theorem tB : ∀ {l : List (Nat × aA)} {h : aL} {n : Nat} {o : aA}, ay (gR l h) n = some o -> (n ∈ l.map (·.1) /\ ∃ m, (n, m) ∈ l /\ o = m) \/ (n ∉ l.map (·.1) /\ ay h n = some o)
 | [], h, n, o, hn => .inr ⟨by simp, hn⟩
 | (k, x) :: r, h, n, o, hn => by
   unfold gR at hn; rcases tB hn with ⟨h1, m, h2, h3⟩ | ⟨h1, h2⟩
   ·exact .inl ⟨by simp only [List.map_cons, List.mem_cons]; exact .inr h1, m, List.mem_cons_of_mem _ h2, h3⟩
   ·rw [ai] at h2
    by_cases e : n = k
    ·subst e; rw [if_pos rfl] at h2; injection h2 with h2; exact .inl ⟨by simp, x, List.mem_cons_self .., h2.symm⟩
    ·rw [if_neg e] at h2; exact .inr ⟨by simp only [List.map_cons, List.mem_cons, not_or]; exact ⟨e, h1⟩, h2⟩
section
variable {env e : Env} {w0 : Anchor} {ρ ρE : af} {fr frE : Fr} {h : aL} {hc : aQ} {nx nxE nx' : Nat} {a a' : Act} {w w' : World}
theorem QR (hs : Sat env w0 ρ fr h nx a w) {S news : List Nat} (hE : Sat e (cF w ρ (eA ρ h S)) ρE frE (bg hc) nxE a' w') {tl : List (Nat × Nat)} {upds : List (Nat × aA)} {outs : List (Nat × SV)} {js : List Nat}
    (hkeys : ∀ n, n ∈ upds.map (·.1) ↔ n ∈ S \/ n ∈ news) (hnew : ∀ n ∈ news, nx <= n /\ n < nx') (hnx : nx <= nx')
    (hobj : ∀ n o, (n, o) ∈ upds -> o = .gone \/ (o.owner = true /\ ∃ oE, bZ hc (sig tl nxE n) = some oE /\ oE.owner = true /\ aA.aV e env (sig tl nxE) oE o) \/ ∃ T ks x, o = .ar T ks x /\ n = dI T /\ ∃ x1, bZ hc n = some (.ar T ks x1) /\ (x1.den e).T = (x.den env).T)
    (hfz : Fz.le ρ.fz ρE.fz) (h6 : ∀ T ks x, bZ hc (dI T) = some (.ar T ks x) -> dI T ∈ S /\ ∃ ks' x', ay (gR upds h) (dI T) = some (.ar T ks' x')) (h7 : ∀ T ks x, ay h (dI T) = some (.ar T ks x) -> ∃ ks' x', ay (gR upds h) (dI T) = some (.ar T ks' x'))
    (hinj : allDiff (tl.map (·.2)) = true) (htl : ∀ x ∈ tl, x.1 ∈ news \/ ρ x.1 = ρE x.2)
    (hout : nK e env (sig tl nxE) frE.sl outs) (hdb : ∀ ρ' ds, ρ.le ρ' -> eZ e ρE frE.df ds -> eZ env ρ' fr.df ds) (hlen : frE.sl.length = fr.sl.length)
    (hkeep : ∀ j, j < fr.sl.length -> j ∉ js -> b9 outs j = none -> a'.tmps.toList[j]? = a.tmps.toList[j]?) :
    ρ.le (eQ ρ ρE (sig tl nxE) news) /\ Sat env w0 (eQ ρ ρE (sig tl nxE) news) ⟨Cq outs (xy js fr.sl), fr.df⟩ (gR upds h) nx' a' w' := by
 have hle := wk (ρE := ρE) (τ := sig tl nxE) hs.nx (fun n hn => (hnew n hn).1) hfz
 have hzz : ρE nxE = none := by
  cases h : ρE nxE with
  | none => rfl
  | some p => have := hE.nx _ _ h; omega
 have nz : ∀ {n : Nat} {p : Pl}, ρE (sig tl nxE n) = some p -> (n, sig tl nxE n) ∈ tl := fun hp => nA fun h => by rw [h, hzz] at hp; cases hp
 have hback : ∀ n p, ρE (sig tl nxE n) = some p -> eQ ρ ρE (sig tl nxE) news n = some p := by
  intro n p hp
  by_cases hn : n ∈ news
  ·rw [Ed hn]; exact hp
  ·rw [lg hn]; rcases htl _ (nz hp) with h1 | h1
   ·exact absurd h1 hn
   ·exact h1.trans hp
 have hle2 : af.le (ρE.re (sig tl nxE)) (eQ ρ ρE (sig tl nxE) news) := ⟨hback, Fz.le_refl _⟩
 have hin : ∀ {n : Nat} {o : aA}, ay (gR upds h) n = some o -> (n ∈ S \/ n ∈ news) -> (n, o) ∈ upds := by
  intro n o hn hS; rcases tB hn with ⟨_, m, h2, rfl⟩ | ⟨h1, _⟩
  ·exact h2
  ·exact absurd ((hkeys n).2 hS) h1
 have place : ∀ {n : Nat} {o : aA}, (n, o) ∈ upds -> o.owner = true -> ∃ oE, ay (bg hc) (sig tl nxE n) = some oE /\ oE.owner = true /\ aA.aV e env (sig tl nxE) oE o /\ ∃ p, ρE (sig tl nxE n) = some p := by
  intro n o hm ho; rcases hobj n o hm with rfl | ⟨_, oE, h1, h2, h3⟩ | ⟨T, ks, x, rfl, _⟩
  ·cases ho
  rotate_left
  ·cases ho
  ·obtain ⟨p, _, hp, _⟩ := (hE.hs.bk _ oE h1).place h2; exact ⟨oE, h1, h2, h3, p, hp⟩
 refine ⟨hle, ⟨?_, ?_, ?_, ?_⟩⟩
 ·refine az.out hs.hs hs.nx (fun n hn => (hnew n hn).1) hE.hs hfz (fun n o hn hS hN => ?_) (fun n o hn hS => ?_) (fun n o hn hS ho => ?_) (fun m n o o' hm hn hSm hSn ho ho' he => ?_) (fun n T ks x hn hS => ?_) h6 h7
  ·rcases tB hn with ⟨h1, _⟩ | ⟨_, h2⟩
   ·rcases (hkeys n).1 h1 with h | h
    ·exact absurd h hS
    ·exact absurd h hN
   ·exact h2
  ·have hm := hin hn hS; cases ho : o.owner with
   | true =>
     obtain ⟨oE, h1, h2, h3, _⟩ := place hm ho; have hr := aA.fK e env (sig tl nxE) (B := w0) (fun b hb => hs.hs.L8 hb) h3 ho rfl (hE.hs.bk _ oE h1); refine hr.cU hle2 (fun _ _ _ => rfl) (fun _ h => by subst h; cases ho)
   | false =>
     rcases hobj n o hm with rfl | ⟨ho', _⟩ | ⟨T, ks, x, rfl, hn, _⟩
     ·trivial
     ·rw [ho] at ho'; cases ho'
     ·exact hn
  ·obtain ⟨oE, h1, h2, h3, p, hp⟩ := place (hin hn hS) ho; exact ⟨oE, h1, h2, by rw [hback n p hp, hp]⟩
  ·obtain ⟨_, _, _, _, p, hp⟩ := place (hin hm hSm) ho; obtain ⟨_, _, _, _, q, hq⟩ := place (hin hn hSn) ho'; have m1 := nz hp; have m2 := nz hq; rw [he] at m1; exact ia hinj m1 m2
  ·have hm := hin hn hS; rcases hobj n _ hm with h | ⟨ho', _⟩ | ⟨T', ks', x', e1, _, x1, g1, g2⟩
   ·cases h
   ·cases ho'
   ·injection e1 with e1 e2 e3; subst e1; subst e2; subst e3; exact ⟨n, x1, g1, g2⟩
 ·have hal : a'.tmps.toList.length = fr.sl.length := by rw [hE.sl.length, hlen]
  refine og (by rw [tL, uu, hal]) (fun j x v hx hv => ?_)
  rcases DE hx with ⟨y, hy, rfl⟩ | ⟨hno, hx⟩
  ·obtain ⟨xE, hxE, hent⟩ := pD e env (sig tl nxE) hout hy; obtain ⟨v', hv', hr⟩ := hE.sl.get hxE; rw [hv] at hv'; injection hv' with hv'; subst hv'; exact (SV.fK e env (sig tl nxE) hent hr).mono hle2
  ·rcases Dt hx with rfl | ⟨h1, h2⟩
   ·trivial
   ·have hjl : j < fr.sl.length := (List.getElem?_eq_some_iff.1 h2).1; rw [hkeep j hjl h1 hno] at hv; obtain ⟨v', hv', hr⟩ := hs.sl.get h2; rw [hv] at hv'; injection hv' with hv'; subst hv'; exact hr.mono hle
 ·exact hdb _ _ hle hE.df
 ·intro n p hp
  by_cases hn : n ∈ news
  ·exact (hnew n hn).2
  ·rw [lg hn] at hp; have := hs.nx n p hp; omega
def s7 (e e' : Env) (σ : Nat -> Nat) (h : aL) (S : List Nat) : aQ -> Prop
 | [] => True
 | (n, o') :: r => (match ay h (mb σ o' n) with | some o => jE e e' σ o o' /\ (o'.owner = true \/ o'.mR = true -> mb σ o' n ∈ S) | none => False) /\ s7 e e' σ h S r
theorem nj {e e' : Env} {σ : Nat -> Nat} {h : aL} {S : List Nat} : ∀ {hp : aQ} {n : Nat} {o' : aA}, s7 e e' σ h S hp -> bZ hp n = some o' -> ∃ o, ay h (mb σ o' n) = some o /\ jE e e' σ o o' /\ (o'.owner = true \/ o'.mR = true -> mb σ o' n ∈ S)
 | [], n, o', _, h => by cases h
 | (k, z) :: r, n, o', he, hg => by
   unfold s7 at he; unfold bZ at hg; cases hb : Nat.beq k n with
   | true =>
     rw [hb] at hg; obtain rfl := Nat.eq_of_beq_eq_true hb; simp only [cond_true, Option.some.injEq] at hg; subst hg; cases hn : ay h (mb σ z k) with
     | none => rw [hn] at he; exact he.1.elim
     | some x => rw [hn] at he; exact ⟨x, rfl, he.1.1, he.1.2⟩
   | false => rw [hb] at hg; exact nj he.2 hg
theorem tN {n : Nat} {o : aA} : ∀ {c : aQ}, bZ c n = some o -> c.all (fun x => bS x.2) = true -> bS o = true
 | [], h, _ => by cases h
 | (k, z) :: r, h, ha => by
   simp only [List.all_cons, Bool.and_eq_true] at ha; unfold bZ at h; cases hb : Nat.beq k n with
   | true => rw [hb] at h; simp only [cond_true, Option.some.injEq] at h; subst h; exact ha.1
   | false => rw [hb] at h; exact tN h ha.2
theorem US (hs : Sat env w0 ρ fr h nx a w) {S : List Nat} {H : Head} {N : Nat} {l : List (Nat × Nat)} (hov : nK env e (sig l nx) fr.sl H.ov) (hhp : s7 env e (sig l nx) h S H.h)
    (hobj : H.h.all (fun x => bS x.2) = true) (hinj : allDiff (l.map (·.2)) = true) (cW : ∀ x ∈ l, x.1 < H.m) {iN : List (FuncId × List SV)} (hdi : ∀ ρ', eZ e ρ' iN a.defers) (hN : fr.sl.length = N) :
    Sat e (cF w ρ (eA ρ h S)) (ρ.re (sig l nx)) ⟨et H.ov (fun j => (a.tmps.toList[j]?).getD undef) 0 N, iN⟩ (bg H.h) H.m a w := by
 have hzz : ρ nx = none := by
  cases h : ρ nx with
  | none => rfl
  | some p => have := hs.nx _ _ h; omega
 have hal : a.tmps.toList.length = N := by rw [hs.sl.length, hN]
 have own : ∀ {o1 o : aA}, jE env e (sig l nx) o1 o -> o.owner = true -> o1.owner = true /\ aA.aV env e (sig l nx) o1 o := by
  intro o1 o h ho; unfold jE at h; split at h
  ·cases ho
  ·cases ho
  ·exact h
 have nz : ∀ {n : Nat} {p : Pl}, ρ (sig l nx n) = some p -> sig l nx n ≠ nx := fun hp h => by rw [h, hzz] at hp; cases hp
 have getO : ∀ {n : Nat} {o : aA}, ay (bg H.h) n = some o -> o.owner = true -> ∃ o1, ay h (sig l nx n) = some o1 /\ o1.owner = true /\ jE env e (sig l nx) o1 o /\ sig l nx n ∈ S := fun hn ho => by
  obtain ⟨o1, g1, g2, g3⟩ := nj hhp hn; rw [kh _ ho] at g1 g3; exact ⟨o1, g1, (own g2 ho).1, g2, g3 (.inl ho)⟩
 have getA : ∀ {n : Nat} {T : TypeId} {ks : aJ} {x : E}, ay (bg H.h) n = some (.ar T ks x) -> n ∈ S /\ ∃ x1, ay h n = some (.ar T ks x1) /\ (x1.den env).T = (x.den e).T := fun {n T ks x} hn => by
  obtain ⟨o1, g1, g2, g3⟩ := nj hhp hn; rw [GI] at g1 g3; cases o1 with
  | ar T1 ks1 x1 => simp only [jE] at g2; obtain ⟨rfl, rfl, g4⟩ := g2; exact ⟨g3 (.inr rfl), x1, g1, g4⟩
  | _ => simp only [jE, aA.aV] at g2; exact g2.2.elim
 have habs : lA e (cF w ρ (eA ρ h S)) (ρ.re (sig l nx)) (bg H.h) w := by
  have hA := hs.hs.ar; refine ⟨fun n T ks x hn => ?_, fun n T ks x i b hn hb => ?_, fun n T ks x i b m o q hn hb hm ho hq => ?_, fun n T ks x i m T' ks' x' i' b hn hm hb hb' => ?_, fun n T ks x i b hn hb => ?_, fun T hT => rfl⟩
  ·obtain ⟨_, x1, g1, g2⟩ := getA hn; have := hA.cell n T ks x1 g1; have e2 : ∀ i j, (x1.den env).at i j = (x.den e).at i j := fun i j => by unfold Dv.at; rw [g2]
   rw [g2] at this; refine ⟨this.1, fun i hi => ?_⟩; obtain ⟨b, vs, k1, k2, k3, k4⟩ := this.2 i hi; refine ⟨b, vs, k1, k2, k3, ?_⟩; rw [show (fun j => (x.den e).at i j) = fun j => (x1.den env).at i j from funext fun j => (e2 i j).symm]; exact k4
  ·obtain ⟨hS, x1, g1, g2⟩ := getA hn; exact ⟨(hA.own n T ks x1 i b g1 hb).1, fun hK => hK.2 (.inr ⟨n, T, ks, x1, i, hS, g1, hb⟩)⟩
  ·obtain ⟨_, x1, g1, g2⟩ := getA hn; obtain ⟨o1, k1, k2, _⟩ := getO hm ho; exact hA.apart n T ks x1 i b _ o1 q g1 hb k1 k2 hq
  ·obtain ⟨_, x1, g1, g2⟩ := getA hn; obtain ⟨_, x2, k1, k2⟩ := getA hm; exact hA.inj n T ks x1 i m T' ks' x2 i' b g1 k1 hb hb'
  ·obtain ⟨_, x1, g1, g2⟩ := getA hn; exact hA.fz n T ks x1 i b g1 hb
 have hfz : Ct (cF w ρ (eA ρ h S)) (ρ.re (sig l nx)) (bg H.h) w := ⟨hs.hs.fz.at_, fun b x n o p hb hn ho hp => by
  obtain ⟨o1, hg1, Zn, _⟩ := getO hn ho
  exact hs.hs.fz.free b x _ o1 p hb hg1 Zn hp, fun b x hb _ => ⟨x, hb⟩⟩
 refine ⟨⟨Kept.refl _, fun n o hn => ?_, fun m n o o' p q hm hn ho ho' hp hq he => ?_, habs, hfz⟩, ?_, ?_, fun n p hp => ?_⟩
 ·obtain ⟨o2, hg, hent, hS⟩ := nj hhp hn; have hho := tN hn hobj; have hr2 := hs.hs.bk _ o2 hg
  have main : o.owner = true -> o.Rel e (cF w ρ (eA ρ h S)) (ρ.re (sig l nx)) n w := fun ho => by
   obtain ⟨ho2, h2⟩ := own hent ho; rw [kh _ ho] at hg hr2 hS; exact aA.HG env e (sig l nx) (A := w0) (n := sig l nx n) (fun p hp _ hK => hK.2 (.inl ⟨sig l nx n, o2, p, hS (.inl ho), hg, ho2, hp, rfl⟩)) h2 ho rfl hr2
  cases o with
  | cells _ _ => exact main rfl
  | row _ _ _ _ _ => exact main rfl
  | map _ _ _ _ _ => exact main rfl
  | k7 _ _ _ _ _ => exact main rfl
  | pf _ _ _ => exact main rfl
  | rA _ _ _ => exact main rfl
  | ar T' ks' x' =>
    cases o2 with
    | ar T ks x => simp only [jE] at hent; obtain ⟨rfl, _⟩ := hent; exact hr2
    | _ => simp only [jE, aA.aV] at hent; exact hent.2.elim
  | chan _ => exact main rfl
  | gone => trivial
  | qW sz' len' cols' =>
    cases o2 with
    | qW sz len cols =>
      simp only [jE] at hent; obtain ⟨rfl, hl, rfl, hcols⟩ := hent; obtain ⟨p, h1, h2, h3, h45⟩ := hr2; have hKA : ∀ b, w0.K b -> (cF w ρ (eA ρ h S)).K b := fun b hb => Classical.byContradiction fun hc => hs.hs.L8 hc hb; refine ⟨p, h1, by rw [<- hl]; exact h2, h3, ?_⟩
      rcases h45 with ⟨ht, h4, h5⟩ | ⟨ht, h4, h6, h5⟩
      ·refine .inl ⟨ht, fun hc => hKA _ (h4 hc), fun i hi j bY hj => ?_⟩; rw [<- hl] at hi; obtain ⟨v, hv, hrv⟩ := h5 i hi j bY hj; refine ⟨v, ?_, ?_⟩
       ·show w.cell? _ = some v; rw [hs.hs.below.cell (p := ⟨p.block, _, none⟩) (h4 (by omega))]
        exact hv
       ·exact SV.fK env e (sig l nx) (hcols bY (List.mem_of_getElem? hj) i) hrv
      ·refine .inr ⟨ht, h4, h6, fun i hi j bY hj => ?_⟩; rw [<- hl] at hi; obtain ⟨v, hv, hrv⟩ := h5 i hi j bY hj; exact ⟨v, hv, SV.fK env e (sig l nx) (hcols bY (List.mem_of_getElem? hj) i) hrv⟩
    | _ => simp only [jE, aA.aV] at hent; exact hent.2.elim
  | _ => cases hho
 ·obtain ⟨o1, g1, Zn, ent1, _⟩ := getO hm ho; obtain ⟨o2, g2, ow2, ent2, _⟩ := getO hn ho'; have hσ := hs.hs.inj _ _ o1 o2 p q g1 g2 Zn ow2 hp hq he; have m1 := nA (nz hp); have m2 := nA (nz hq); rw [hσ] at m1; exact ia hinj m1 m2
 ·refine sL (vs := a.tmps.toList) (fun j v hv => ?_) a.tmps.toList 0 N (fun k => by rw [Nat.zero_add]) hal
  cases ho : b9 H.ov j with
  | none => show (a.tmps.toList[j]?).getD undef = v; rw [hv]; rfl
  | some y =>
    obtain ⟨x, hx, hent⟩ := pD env e (sig l nx) hov ho; obtain ⟨v', hv', hr⟩ := hs.sl.get hx; rw [hv] at hv'; injection hv' with hv'; subst hv'; exact SV.fK env e (sig l nx) hent hr
 ·exact hdi _
 ·have hnz : sig l nx n ≠ nx := fun h => by
    have hp' : ρ (sig l nx n) = some p := hp; rw [h, hzz] at hp'; cases hp'
  exact cW _ (nA hnz)
end
end Go.Sx
