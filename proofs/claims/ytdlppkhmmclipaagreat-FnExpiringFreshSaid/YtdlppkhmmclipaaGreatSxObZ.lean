/-
  A STORE WHOSE OBJECTS EXPIRE: replacing: its contracts.
-/
import Derived.Test.YtdlppkhmmclipaaGreatSxObA
import Derived.Test.YtdlppkhmmclipaaGreatSxObF
import Derived.Test.YtdlppkhmmclipaaGreatSxObE
namespace Go.Proofs.YtdlppkhmmclipaaGreat.sxObj
open Go.Sx Go.RowKit Go.Proofs.YtdlppkhmmclipaaGreat
set_option linter.unusedVariables false
set_option linter.unusedSimpArgs false
def firstRow (r : Row) : Row := [cc r 0]
def Apart (l : List Row) : Prop := l.Pairwise fun a b => (cc a 0).S ≠ (cc b 0).S
def tlT (ks m : Dv) : List Row := ks.T.map fun k => [cc (row m (mfindI .s (cc k 0) m.T).toNat) 1]
def allIn (ks m : Dv) : Prop := ∀ k ∈ ks.T, 0 <= mfindI .s (cc k 0) m.T
def enKey (l : Dv) (n : Nat) : Dv := cc (row (cc (row l n) 0) 0) 3
def enOf (m : List Row) (k : Dv) : Row := row (cc (row (.t m) (mfindI .s k m).toNat) 1) 0
def enHas (m : List Row) (k : Dv) : Prop := 0 <= mfindI .s k m
def enGone (m : List Row) (now ttl : Int) (k : Dv) : Prop := 0 < ttl /\ ((cc (enOf m k) 1).B = false \/ ttl < now - (cc (enOf m k) 2).I)
noncomputable def elIt (l m : Dv) (now ttl : Int) : Nat -> List Row
  | 0 => m.T
  | n + 1 => if dec (enHas (elIt l m now ttl n) (enKey l n) /\ enGone (elIt l m now ttl n) now ttl (enKey l n)) = true then mdel .s (elIt l m now ttl n) (enKey l n) else elIt l m now ttl n
def elP1 (l m : Dv) (now ttl : Int) (j : Nat) : Prop := enHas (elIt l m now ttl j) (enKey l j) /\ ¬ enGone (elIt l m now ttl j) now ttl (enKey l j)
noncomputable def elIx (l m : Dv) (now ttl : Int) (n : Nat) : List Nat := (List.range n).filter fun j => dec (elP1 l m now ttl j)
noncomputable def elOutT (l m : Dv) (now ttl : Int) : List Row := (elIx l m now ttl l.T.length).map fun j => [cc (enOf (elIt l m now ttl j) (enKey l j)) 0]
def enTimes (m : List Row) : Prop := ∀ r ∈ m, 0 <= (cc (row (cc r 1) 0) 2).I /\ (cc (row (cc r 1) 0) 2).I <= 1125899906842624
def anyRow (l : Dv) (n : Nat) : Row := row (cc (row l n) 0) 0
def anyKey (l : Dv) (n : Nat) : Dv := .s (keyB (cc (anyRow l n) 0).S (cc (anyRow l n) 1).S)
def itRow (any now key : Dv) : Row := [key, .t [[any, .b true, now, key]]]
def rqT (l now : Dv) : Nat -> List Row
  | 0 => []
  | n + 1 => mput .s (rqT l now n) (itRow (cc (row l n) 0) now (anyKey l n))
def qa (l : Dv) (j : Nat) : Prop := (cc (anyRow l j) 6).B = false
def anysOk (l : Dv) : Prop := ∀ j, j < l.T.length -> okR (cc (anyRow l j) 0) (cc (anyRow l j) 1) (cc (anyRow l j) 4)
def ent (M : List Row) (o : Row) : Row := itRow (.t [nine o]) (.i (atV (.t M) (kS o))) (.s (kS o))
def itemsT (S M : List Row) : List Row := S.map (ent M)
noncomputable def exRv (ops : Dv) : Nat -> ByteArray
  | 0 => ⟨[].toArray⟩
  | n + 1 => if (cc (row ops n) 0).I = 2 /\ (cc (row ops n) 7).B = false then (cc (row ops n) 4).S else if (cc (row ops n) 0).I = 3 /\ dec (gAll (qb (cc (row ops n) 9)) (cc (row ops n) 9).T.length) = true then ⟨[].toArray⟩ else exRv ops n
theorem g_at {Q : Nat -> Prop} {n r : Nat} (hr : r <= gN Q n) (hl : r < n) (h : ¬ Q r) : gN Q n = r := by
  refine Nat.le_antisymm (Nat.le_of_not_lt fun hlt => ?_) hr; have h2 := stop_before (show r < stop (fun j => !dec (Q j)) n from hlt); rw [dec_no.2 h] at h2; cases h2
noncomputable def exUF (c : Nat) (d : Dv) : Dv :=
  match c with
  | 200 => .t ((ar d 0).T.map firstRow)
  | 201 => .b (dec (Apart (ar d 0).T))
  | 202 => .t (tlT (ar d 0) (ar d 1))
  | 203 => .b (dec (allIn (ar d 0) (ar d 1)))
  | 204 => .t (elIt (ar d 0) (ar d 1) (ar d 2).I (ar d 3).I (ar d 4).I.toNat)
  | 205 => .t (elOutT (ar d 0) (ar d 1) (ar d 2).I (ar d 3).I)
  | 206 => .i ((elIx (ar d 0) (ar d 1) (ar d 2).I (ar d 3).I (ar d 4).I.toNat).length : Nat)
  | 207 => .t (elIt (ar d 0) (ar d 1) (ar d 2).I (ar d 3).I (ar d 0).T.length)
  | 208 => .b (dec (enTimes (ar d 0).T))
  | 210 => .t (rqT (ar d 0) (ar d 1) (ar d 2).I.toNat)
  | 211 => .b (dec (¬ gAll (qa (ar d 0)) (ar d 0).T.length))
  | 212 => .i (gN (qa (ar d 0)) (ar d 0).T.length : Nat)
  | 213 => .b (dec (anysOk (ar d 0)))
  | 214 => .t (rqT (ar d 0) (ar d 1) (ar d 0).T.length)
  | 215 => .t (itemsT (spSt (ar d 0) (ar d 1).I (ar d 2).I.toNat).S (spSt (ar d 0) (ar d 1).I (ar d 2).I.toNat).M)
  | 216 => .s (exRv (ar d 0) (ar d 2).I.toNat)
  | _ => .i 0
def OV (o : Env) : Prop := ∀ c d, 200 <= c -> c < 260 -> o.uf c d = exUF c d
theorem OV.like {o o' : Env} (h : OV o) (e : o'.uf = o.uf) : OV o' := fun c d h1 h2 => by rw [e]; exact h c d h1 h2
section
variable {o : Env} (h : OV o) (d : Dv)
include h
theorem OV.u210 : o.uf 210 d = .t (rqT (ar d 0) (ar d 1) (ar d 2).I.toNat) := h 210 d (by decide) (by decide)
theorem OV.u211 : o.uf 211 d = .b (dec (¬ gAll (qa (ar d 0)) (ar d 0).T.length)) := h 211 d (by decide) (by decide)
theorem OV.u212 : o.uf 212 d = .i (gN (qa (ar d 0)) (ar d 0).T.length : Nat) := h 212 d (by decide) (by decide)
theorem OV.u213 : o.uf 213 d = .b (dec (anysOk (ar d 0))) := h 213 d (by decide) (by decide)
theorem OV.u214 : o.uf 214 d = .t (rqT (ar d 0) (ar d 1) (ar d 0).T.length) := h 214 d (by decide) (by decide)
theorem OV.u215 : o.uf 215 d = .t (itemsT (spSt (ar d 0) (ar d 1).I (ar d 2).I.toNat).S (spSt (ar d 0) (ar d 1).I (ar d 2).I.toNat).M) := h 215 d (by decide) (by decide)
theorem OV.u216 : o.uf 216 d = .s (exRv (ar d 0) (ar d 2).I.toNat) := h 216 d (by decide) (by decide)
theorem OV.u202 : o.uf 202 d = .t (tlT (ar d 0) (ar d 1)) := h 202 d (by decide) (by decide)
theorem OV.u203 : o.uf 203 d = .b (dec (allIn (ar d 0) (ar d 1))) := h 203 d (by decide) (by decide)
theorem OV.u204 : o.uf 204 d = .t (elIt (ar d 0) (ar d 1) (ar d 2).I (ar d 3).I (ar d 4).I.toNat) := h 204 d (by decide) (by decide)
theorem OV.u205 : o.uf 205 d = .t (elOutT (ar d 0) (ar d 1) (ar d 2).I (ar d 3).I) := h 205 d (by decide) (by decide)
theorem OV.u206 : o.uf 206 d = .i ((elIx (ar d 0) (ar d 1) (ar d 2).I (ar d 3).I (ar d 4).I.toNat).length : Nat) := h 206 d (by decide) (by decide)
theorem OV.u207 : o.uf 207 d = .t (elIt (ar d 0) (ar d 1) (ar d 2).I (ar d 3).I (ar d 0).T.length) := h 207 d (by decide) (by decide)
theorem OV.u208 : o.uf 208 d = .b (dec (enTimes (ar d 0).T)) := h 208 d (by decide) (by decide)
theorem OV.u200 : o.uf 200 d = .t ((ar d 0).T.map firstRow) := h 200 d (by decide) (by decide)
theorem OV.u201 : o.uf 201 d = .b (dec (Apart (ar d 0).T)) := h 201 d (by decide) (by decide)
end
theorem head_cc (r : Row) : r.headD (.i 0) = cc r 0 := by cases r <;> rfl
theorem keys_perm {l : List Row} {vis : List Dv} (ha : Apart l) (hv : vis.Pairwise fun a b => KK.str.dv a ≠ KK.str.dv b) (h1 : ∀ k ∈ vis, ∃ r ∈ l, r.headD (.i 0) = k) (h2 : ∀ r ∈ l, ∃ k ∈ vis, KK.str.dv k = KK.str.dv (r.headD (.i 0))) :
    (vis.map fun k => [k]).Perm (l.map firstRow) := by
  have e : l.map firstRow = (l.map fun r => r.headD (.i 0)).map fun k => [k] := by
    rw [List.map_map]; exact List.map_congr_left fun r _ => by show [cc r 0] = [r.headD (.i 0)]; rw [head_cc]
  rw [e]; refine List.Perm.map _ ((List.perm_ext_iff_of_nodup ?_ ?_).2 fun k => ⟨fun hk => ?_, fun hk => ?_⟩)
  . exact hv.imp fun hne he => hne (by rw [he])
  . refine List.pairwise_map.2 (ha.imp fun {a b} hne he => hne ?_); rw [head_cc, head_cc] at he; rw [he]
  . obtain ⟨r, hr, rfl⟩ := h1 k hk; exact List.mem_map.2 ⟨r, hr, rfl⟩
  . obtain ⟨r, hr, rfl⟩ := List.mem_map.1 hk; obtain ⟨k', hk', he⟩ := h2 r hr; obtain ⟨r', hr', rfl⟩ := h1 k' hk'
    have hs : (cc r' 0).S = (cc r 0).S := by
      rw [head_cc, head_cc] at he; have he : Value.string (cc r' 0).S = Value.string (cc r 0).S := he; injection he
    by_cases hrr : r' = r
    . rw [<- hrr]; exact hk'
    . exfalso; obtain ⟨i, hi, e1⟩ := List.mem_iff_getElem.1 hr; obtain ⟨j, hj, e2⟩ := List.mem_iff_getElem.1 hr'; rcases Nat.lt_trichotomy i j with hij | hij | hij
      . have := List.pairwise_iff_getElem.1 ha i j hi hj hij; rw [e1, e2] at this; exact this hs.symm
      . subst hij; exact hrr (e2.symm.trans e1)
      . have := List.pairwise_iff_getElem.1 ha j i hj hi hij; rw [e1, e2] at this; exact this hs
theorem keys_len {l : List Row} {vis : List Dv} (hv : vis.Pairwise fun a b => KK.str.dv a ≠ KK.str.dv b) (h1 : ∀ k ∈ vis, ∃ r ∈ l, r.headD (.i 0) = k) : vis.length <= l.length := by
  induction l generalizing vis with
  | nil =>
    cases vis with
    | nil => exact Nat.le_refl _
    | cons k _ => obtain ⟨r, hr, _⟩ := h1 k (List.mem_cons_self ..); cases hr
  | cons x l ih =>
    have h3 : ∀ v : List Dv, (v.Pairwise fun a b => KK.str.dv a ≠ KK.str.dv b) -> v.length <= (v.filter fun k => dec (k ≠ x.headD (.i 0))).length + 1 := fun v hv => by
      induction v with
      | nil => exact Nat.zero_le _
      | cons a v ihv =>
        rw [List.pairwise_cons] at hv
        by_cases ha : a = x.headD (.i 0)
        . have : v.filter (fun k => dec (k ≠ x.headD (.i 0))) = v := List.filter_eq_self.2 fun b hb => dec_iff.2 fun e => hv.1 b hb (by rw [ha, e])
          rw [List.filter_cons, this, if_neg (by rw [dec_iff]; exact fun q => q ha)]
          exact Nat.le_refl _
        . rw [List.filter_cons, if_pos (dec_iff.2 ha)]; exact Nat.succ_le_succ (ihv hv.2)
    have h4 := ih (vis := vis.filter fun k => dec (k ≠ x.headD (.i 0))) (hv.filter _) (fun k hk => by
      obtain ⟨hk, hne⟩ := List.mem_filter.1 hk; obtain ⟨r, hr, e⟩ := h1 k hk; rcases List.mem_cons.1 hr with rfl | hr
      . exact absurd e.symm (dec_iff.1 hne)
      . exact ⟨r, hr, e⟩)
    have := h3 vis hv; rw [List.length_cons]; omega
def tiK : DKs := .cons (.ifc 261 (.fp (.cons aC (.cons .bool (.cons (.int .i64) (.cons .str .nil)))))) .nil
def itO (e : E) (it : Option Nat) : SObj := .dmp .str false tiK e it
def zkR : RgI := ⟨9, 3, 4, .str, 7549⟩
def zkY : LoopY where
  f := fKeysA; key := 3; N := 21; r := 2150; base := 158000
  js := [4] ++ rgN 10 18
  hd := fun _ => ⟨[(0, .map 3), (9, .ptr 4 (.c 0)), (3, .sl 5 1 (.il 0) (lenE (.v 2150)))], [(5, .row tStr 1 (lenE (.v 2150)) (tcCols strK (.v 2150) 0) []), (4, .itr 3 .str (.v 2150)), (3, itO (.v 7540) (some 4))], 9, [maxF (.v 7540), (.uf 201 (pk [.v 7540]), true)]⟩
  ent := fun _ => [maxF (.v 7540), (.uf 201 (pk [.v 7540]), true)]
  app := fun _ => true
  ok0 := fun m => Nat.beq m 0
  modeL := fun _ => .ret 0
  tgt := fun m => Nat.beq m 0
  mf := fun _ => []
  hx := fun _ => ⟨[(0, .map 3), (9, .top), (3, .sl 5 1 (.il 0) (lenE (.v 7540)))], [(5, .bag tStr strK (.uf 200 (pk [.v 7540]))), (3, itO (.v 7540) none)], 9, []⟩
  xmL := fun _ _ => .ret 0
  exN := fun _ => .exit 0
  exits := [(.bl true, 0)]
  fixed := [3]
  lt := .bl true
  X := XCtr.none
  fuel := 300; np := 60
  params := [7540]
end Go.Proofs.YtdlppkhmmclipaaGreat.sxObj
namespace Go.Proofs.YtdlppkhmmclipaaGreat.sxObj
open Go.Sx
set_option linter.unusedVariables false
def zk0L : List (Facts × List Ob) :=
  [([],
    [(.e (.o2 .ieq (.o1 .tlen (.v 2150)) (.o1 .tlen (.v 7540)))), (.p (.v 2150) (.uf 200 (.o2 .cel (.v 7540) (.il 0))))])]
def zk1L : List (Facts × List Ob) :=
  [([((.o2 .le (.il 0) (.o2 (.mf .s) (.v 7540) (.v 7549))), true)],
    [(.e (.o2 .le (.o1 .tlen (.v 2150)) (.il 2147483648)))])]
end Go.Proofs.YtdlppkhmmclipaaGreat.sxObj
namespace Go.Proofs.YtdlppkhmmclipaaGreat.sxObj
open Go.Sx Go.RowKit Go.Proofs.YtdlppkhmmclipaaGreat
set_option linter.unusedVariables false
set_option linter.unusedSimpArgs false
set_option maxRecDepth 100000
section
variable {o : Env}
theorem zk0_o : LoopY.oblR Tryz.prog zkY zkR 0 false = some zk0L := by kernel_rfl
theorem zk1_o : LoopY.oblR Tryz.prog zkY zkR 0 true = some zk1L := by kernel_rfl
theorem zkY_ok (hv : OV o) : LpOk Tryz.prog o fKeysA 3 zkY.lpP := by
  refine LoopY.lp_okR plain mixed (D := zkY) (R := zkR) (by kernel_rfl) (fun e' he μ0 h0 hent => ?_) (fun _ => rfl)
  obtain rfl := m0_of h0; have hv' := hv.like he.uf; have hent : Facts.Hold e' [maxF (.v 7540), (.uf 201 (pk [.v 7540]), true)] := hent; simp only [maxF, lenE, pk, List.foldr, SS, implies_true, hv'.u201, dec_iff] at hent; obtain ⟨hmx, hap⟩ := hent; refine ⟨⟨fun _ vs μ => μ = 0 /\ vs.Pairwise (fun a b => KK.str.dv a ≠ KK.str.dv b) /\ ∀ k ∈ vs, ∃ r ∈ (e'.v 7540).T, r.headD (.i 0) = k, fun _ b => cond b zk1L zk0L, fun _ _ _ _ => extOk_none, fun u vs μ hm b => ?_, fun u vs μ e hm he0 hO x hx hfx => ?_, fun u vs μ e k hm he0 hC x hx hfx => ?_, fun u vs μ y hm => ?_, fun u vs μ μ' e k hm he0 hC ht _ => ⟨0, ⟨rfl, ?_, ?_⟩, ?_⟩, fun u _ => ⟨0, ⟨rfl, List.Pairwise.nil, fun _ q => by cases q⟩, SameH.refl _⟩⟩⟩
  . rw [hm.1]; cases b
    . exact zk0_o
    . exact zk1_o
  . obtain ⟨h1, h2, h3⟩ := hm; rw [h1] at he0; injection he0 with he0; subst he0; have hp := keys_perm hap h2 h3 hO; refine allL_mem (env := zkY.envR zkR e' u (LoopY.visD vs) (e'.v zkR.kv)) ?_ x hx hfx; have hv2 : OV (zkY.envR zkR e' u (LoopY.visD vs) (e'.v zkR.kv)) := hv'; show AllL _ zk0L; simp only [zk0L, allL_cons, allL_nil, and_true]; intro h; simp only [SS, implies_true, hv2.u200]; have e1 : (zkY.envR zkR e' u (LoopY.visD vs) (e'.v zkR.kv)).v 2150 = LoopY.visD vs := rfl; have e2 : (zkY.envR zkR e' u (LoopY.visD vs) (e'.v zkR.kv)).v 7540 = e'.v 7540 := rfl; rw [e1, e2, LoopY.visD_T]; have := hp.length_eq; refine ⟨?_, hp⟩; simp only [List.length_map] at this ⊢; omega
  . obtain ⟨h1, h2, h3⟩ := hm; rw [h1] at he0; injection he0 with he0; subst he0; refine allL_mem (env := zkY.envR zkR e' u (LoopY.visD vs) k) ?_ x hx hfx; show AllL _ zk1L; simp only [zk1L, allL_cons, allL_nil, and_true]; intro h; simp only [SS, implies_true]; have e1 : (zkY.envR zkR e' u (LoopY.visD vs) k).v 2150 = LoopY.visD vs := rfl; rw [e1, LoopY.visD_T, List.length_map]; have := keys_len h2 h3; omega
  . rw [hm.1]; have hv2 : OV (zkY.envR zkR e' u (LoopY.visD vs) y) := hv'; show Facts.Hold _ [maxF (.v 7540), (.uf 201 (pk [.v 7540]), true)]; have e2 : (zkY.envR zkR e' u (LoopY.visD vs) y).v 7540 = e'.v 7540 := rfl; simp only [maxF, lenE, pk, List.foldr, SS, implies_true, hv2.u201, dec_iff, e2]; exact ⟨hmx, hap⟩
  . refine List.pairwise_append.2 ⟨hm.2.1, List.pairwise_singleton _ _, fun a ha b hb => ?_⟩; rw [List.mem_singleton.1 hb]; exact hC.2 a ha
  . intro k' hk'; rcases List.mem_append.1 hk' with h | h
    . exact hm.2.2 k' h
    . rw [List.mem_singleton.1 h]; have he := hm.1; subst he; injection he0 with he0; subst he0; exact hC.1
  . have := hm.1; rw [m0_of ht]; exact SameH.refl _
end
def fTsList : Nat := 181
def fTsKeys : Nat := 183
def fExList : Nat := 154
def fExRep : Nat := 156
def fTsRep : Nat := 184
def entK : DKs := .cons aC (.cons .bool (.cons (.int .i64) (.cons .str .nil)))
def itC : DK := .ifc 261 (.fp entK)
def itK : DKs := .cons itC .nil
def msH (items rv : E) (it : Option Nat) : CHeap := [(7, .dmp .str false strK (.il 0) none), (6, .dmp .str false strK (.il 0) none), (10, .cells 189 [.map 6, .map 7]), (3, itO items it), (1, .cells 191 [.map 3, .ptr 10 (.c 0), .str rv])]
def tlY : LoopY where
  f := fTsList; key := 5; N := 40; r := 2155; base := 160000
  js := [5] ++ rgN 26 39
  hd := fun m => ⟨[(0, .ptr 1 (.c 0)), (23, .dsl strK (.v 7560)), (24, iS (lenE (.v 7560))), (3, .sl 8 1 (.il 0) (.v 2155)), (25, iS (.v 2155))],
    (8, .row tAny 1 (.v 2155) (tcCols itK (.uf 202 (pk [.v 7560, .v 7561])) 0) []) :: msH (.v 7561) (.v 7562) none, 20,
    leT (.il 0) (.v 2155) :: leT (.v 2155) (lenE (.v 7560)) :: [maxF (.v 7560), (.uf 203 (pk [.v 7560, .v 7561]), true)]⟩
  ent := fun _ => [maxF (.v 7560), (.uf 203 (pk [.v 7560, .v 7561]), true)]
  app := fun _ => true
  ok0 := fun m => Nat.beq m 0
  modeL := fun sl => match nth sl 3 with | some (.sl n ..) => .get n fun o => (match o with | .row _ _ _ _ [[.nilif]] => .ret 777 | _ => .ret 0) | _ => .fail
  tgt := fun m => Nat.beq m 0
  mf := fun _ => []
  hx := fun _ => ⟨[(0, .ptr 1 (.c 0)), (23, .top), (24, .top), (3, .dsl itK (.uf 202 (pk [.v 7560, .v 7561]))), (25, .top)], msH (.v 7561) (.v 7562) none, 20, []⟩
  xmL := fun _ _ => .ret 0
  exN := fun _ => .exit 0
  exits := [(.bl true, 0)]
  fixed := [1, 3, 6, 7, 10]
  lt := .o2 .lt (.v 2155) (lenE (.v 7560))
  X := XCtr.none
  fuel := 300; np := 60
  params := [7560, 7561, 7562]
  dfN := [(82, 1)]
  kds := [(tAny, itK), (tStr, strK)]
def tkY : LoopY where
  f := fTsKeys; key := 5; N := 35; r := 2156; base := 161000
  js := [5] ++ rgN 26 34
  hd := fun _ => ⟨[(23, .dsl strK (.v 7565)), (24, iS (lenE (.v 7565))), (3, .sl 8 1 (.il 0) (.v 2156)), (25, iS (.v 2156))],
    [(8, .row tStr 1 (.v 2156) (tcCols strK (.v 7565) 0) [])], 9, leT (.il 0) (.v 2156) :: leT (.v 2156) (lenE (.v 7565)) :: [maxF (.v 7565)]⟩
  ent := fun _ => [maxF (.v 7565)]
  app := fun _ => true
  ok0 := fun m => Nat.beq m 0
  modeL := fun _ => .ret 0
  tgt := fun m => Nat.beq m 0
  mf := fun _ => []
  hx := fun _ => ⟨[(23, .top), (24, .top), (3, .dsl strK (.v 7565)), (25, .top)], [], 9, []⟩
  xmL := fun _ _ => .ret 0
  exN := fun _ => .exit 0
  exits := [(.bl true, 0)]
  fixed := []
  lt := .o2 .lt (.v 2156) (lenE (.v 7565))
  X := XCtr.none
  fuel := 300; np := 60
  params := [7565]
  dfN := [(82, 1)]
  kds := [(tStr, strK)]
def exW (ttl now rv items : E) (it : Option Nat := none) : CHeap :=
  [(7, .dmp .str false strK (.il 0) none), (6, .dmp .str false strK (.il 0) none), (10, .cells 189 [.map 6, .map 7]), (5, .cells 77 [iS ttl, .ifc 66 (.ptr 4 (.c 0))]), (4, .cells 68 [iS now]), (3, itO items it), (2, .cells 191 [.map 3, .ptr 10 (.c 0), .str rv]),
   (1, .cells 147 [.ifc 185 (.ptr 2 (.c 0)), .fn (.func fMeta) [] [], .ifc 66 (.ptr 4 (.c 0)), .ifc 72 (.ptr 5 (.c 0))])]
def elP : List E := [.v 7570, .v 7571, .v 7572, .v 7573]
def elR : E := pk (elP ++ [.v 2157])
def elEnt : Facts := maxF (.v 7570) :: [leT (.il 0) (.v 7572), leT (.v 7572) bigE, leT (.il (-1099511627776)) (.v 7573), leT (.v 7573) (.il 1099511627776), (.uf 208 (pk [.v 7571]), true)]
def elY : LoopY where
  f := fExList; key := 4; N := 42; r := 2157; base := 162000
  js := [6, 7, 8, 9] ++ rgN 21 41
  hd := fun _ => ⟨[(0, .ptr 1 (.c 0)), (18, .dsl itK (.v 7570)), (19, iS (lenE (.v 7570))), (4, .sl 8 1 (.il 0) (.uf 206 elR)), (20, iS (.v 2157))],
    (8, .row tAny 1 (.uf 206 elR) (tcCols aK (.uf 205 (pk elP)) 0) []) :: exW (.v 7573) (.v 7572) (.v 7574) (.uf 204 elR), 20, leT (.il 0) (.v 2157) :: leT (.v 2157) (lenE (.v 7570)) :: elEnt⟩
  ent := fun _ => elEnt
  app := fun _ => true
  ok0 := fun m => Nat.beq m 0
  modeL := fun _ => .ret 0
  tgt := fun m => Nat.beq m 0
  mf := fun _ => []
  hx := fun _ => ⟨[(0, .ptr 1 (.c 0)), (18, .top), (19, .top), (4, .dsl aK (.uf 205 (pk elP))), (20, .top)], exW (.v 7573) (.v 7572) (.v 7574) (.uf 207 (pk elP)), 20, []⟩
  xmL := fun _ _ => .ret 0
  exN := fun _ => .exit 0
  exits := [(.bl true, 0)]
  fixed := [1, 2, 3, 4, 5, 6, 7, 10]
  lt := .o2 .lt (.v 2157) (lenE (.v 7570))
  X := XCtr.none
  fuel := 600; np := 120
  params := [7570, 7571, 7572, 7573, 7574]
  pinH := [(7571, 0, 0, [0, 0])]
  kds := [(tAny, aK)]
end Go.Proofs.YtdlppkhmmclipaaGreat.sxObj
namespace Go.Proofs.YtdlppkhmmclipaaGreat.sxObj
open Go.Sx
set_option linter.unusedVariables false
abbrev ov0 : E := .o2 (.mf .s) (.v 7561) (.o2 (.cell 0) (.v 7560) (.v 2155))
abbrev ov1 : E := .o2 .le (.il 0) ov0
abbrev ov2 : E := .o2 .lt (.v 2155) (.o1 .tlen (.v 7560))
abbrev ov3 : Facts := [(ov2, true)]
abbrev ov4 : E := .uf 202 (.o2 .cel (.v 7560) (.o2 .cel (.v 7561) (.il 0)))
def tlL : List (Facts × List Ob) :=
  [((((ov1, true) : E × Bool) :: ov3),
    [(.t (.o2 (.cell 1) (.v 7561) ov0) (.o2 (.cell 0) ov4 (.v 2155)))]),
   ((((ov1, false) : E × Bool) :: ov3),
    [(.e (.bl false))]),
   ([(ov2, false)],
    [(.e (.o2 .le (.v 2155) (.o1 .tlen ov4))), (.t (.o2 .ttake ov4 (.v 2155)) ov4)])]
abbrev ov5 : E := .o2 .lt (.v 2156) (.o1 .tlen (.v 7565))
def tkL : List (Facts × List Ob) :=
  [([(ov5, true)],
    []),
   ([(ov5, false)],
    [(.t (.o2 .ttake (.v 7565) (.v 2156)) (.v 7565))])]
abbrev ov6 : E := .o2 .cel (.v 7570) (.o2 .cel (.v 7571) (.o2 .cel (.v 7572) (.o2 .cel (.v 7573) (.o2 .cel (.v 2157) (.il 0)))))
abbrev ov7 : E := .o2 (.cell 3) (.o2 (.cell 0) (.v 7570) (.v 2157)) (.il 0)
abbrev ov8 : E := .o2 (.mf .s) (.uf 204 ov6) ov7
abbrev ov9 : E := .o2 (.cell 1) (.uf 204 ov6) ov8
abbrev ov10 : E := .o2 .sub (.v 7572) (.o2 (.cell 2) ov9 (.il 0))
abbrev ov11 : E := .o2 .lt (.v 7573) ov10
abbrev ov12 : E := .o2 (.cell 1) ov9 (.il 0)
abbrev ov13 : E := .o2 .le (.il 0) ov8
abbrev ov14 : E := .o2 .lt (.v 2157) (.o1 .tlen (.v 7570))
abbrev ov15 : Facts := [(ov14, true)]
abbrev ov16 : Facts := ((ov13, true) : E × Bool) :: ov15
abbrev ov17 : Facts := (((.o2 .lt (.il 0) (.v 7573)), true) : E × Bool) :: ov16
abbrev ov18 : Facts := ((ov12, true) : E × Bool) :: ov17
abbrev ov19 : E := .o2 .cel (.v 7570) (.o2 .cel (.v 7571) (.o2 .cel (.v 7572) (.o2 .cel (.v 7573) (.o2 .cel (.o2 .add (.v 2157) (.il 1)) (.il 0)))))
abbrev ov20 : List Ob := [(.e (.o2 .ieq (.uf 206 ov6) (.uf 206 ov19))), (.e (.o2 .le (.il 0) (.uf 206 ov6))), (.e (.o2 .ieq (.uf 206 ov19) (.uf 206 ov6))), (.p (.o2 (.md .s) (.uf 204 ov6) ov7) (.uf 204 ov19))]
abbrev ov21 : E := .o2 .add (.uf 206 ov6) (.il 1)
abbrev ov22 : E := .o2 .cel (.v 7570) (.o2 .cel (.v 7571) (.o2 .cel (.v 7572) (.o2 .cel (.v 7573) (.il 0))))
abbrev ov23 : List Ob := [(.p (.uf 204 ov6) (.uf 204 ov19))]
abbrev ov24 : List Ob := ((.e (.o2 .ieq ov21 (.uf 206 ov19))) : Ob) :: ((.e (.o2 .le (.il 0) (.uf 206 ov6))) : Ob) :: ((.e (.o2 .ieq (.uf 206 ov19) ov21)) : Ob) :: ((.t (.o2 (.cell 0) ov9 (.il 0)) (.o2 (.cell 0) (.uf 205 ov22) (.uf 206 ov6))) : Ob) :: ov23
def elL : List (Facts × List Ob) :=
  [((((ov11, true) : E × Bool) :: ov18),
    (((.e (.o2 .le ov10 (.il 9223372036854775807))) : Ob) :: ov20)),
   ((((ov11, false) : E × Bool) :: ov18),
    (((.e (.o2 .le (.uf 206 ov6) (.il 2147483648))) : Ob) :: ((.e (.o2 .le (.il 0) (.uf 206 ov6))) : Ob) :: ((.e (.o2 .le (.il (-9223372036854775808)) ov10)) : Ob) :: ov24)),
   ((((ov12, false) : E × Bool) :: ov17),
    ov20),
   (((((.o2 .lt (.il 0) (.v 7573)), false) : E × Bool) :: ov16),
    (((.e (.o2 .le (.uf 206 ov6) (.il 2147483648))) : Ob) :: ((.e (.o2 .le (.il 0) (.uf 206 ov6))) : Ob) :: ov24)),
   ((((ov13, false) : E × Bool) :: ov15),
    (((.e (.o2 .ieq (.uf 206 ov6) (.uf 206 ov19))) : Ob) :: ((.e (.o2 .le (.il 0) (.uf 206 ov6))) : Ob) :: ((.e (.o2 .ieq (.uf 206 ov19) (.uf 206 ov6))) : Ob) :: ov23)),
   ([(ov14, false)],
    [(.e (.o2 .le (.il 0) (.uf 206 ov6))), (.e (.o2 .le (.uf 206 ov6) (.o1 .tlen (.uf 205 ov22)))), (.t (.o2 .ttake (.uf 205 ov22) (.uf 206 ov6)) (.uf 205 ov22)), (.p (.uf 204 ov6) (.uf 207 ov22))])]
end Go.Proofs.YtdlppkhmmclipaaGreat.sxObj
namespace Go.Proofs.YtdlppkhmmclipaaGreat.sxObj
open Go.Sx Go.RowKit Go.Proofs.YtdlppkhmmclipaaGreat
set_option linter.unusedVariables false
set_option linter.unusedSimpArgs false
set_option maxRecDepth 100000
theorem row_mapg {l : Dv} {f : Row -> Row} {n : Nat} (h : n < l.T.length) : row (.t (l.T.map f)) n = f (row l n) := by rw [row_map h]; rfl
theorem mdel_mem {q : KQ} {l : List Row} {k : Dv} {r : Row} (h : r ∈ mdel q l k) : r ∈ l := by
  unfold mdel at h; split at h
  . exact List.mem_of_mem_eraseIdx h
  . exact h
section
variable {l m : Dv} {now ttl : Int}
theorem el_times (h : enTimes m.T) : ∀ n, enTimes (elIt l m now ttl n)
  | 0 => h
  | n + 1 => by
    unfold elIt; split
    . exact fun r hr => el_times h n r (mdel_mem hr)
    . exact el_times h n
theorem en_time {t : List Row} {k : Dv} (h : enTimes t) (hk : enHas t k) : 0 <= (cc (enOf t k) 2).I /\ (cc (enOf t k) 2).I <= 1125899906842624 := h _ (row_mem (d := .t t) (mfI_lt hk))
theorem elIx_s {n : Nat} : elIx l m now ttl (n + 1) = elIx l m now ttl n ++ (if dec (elP1 l m now ttl n) = true then [n] else []) := by
  unfold elIx; rw [List.range_succ, List.filter_append, List.filter_cons]; rfl
theorem elIx_le {a b : Nat} (h : a <= b) : ∃ r, elIx l m now ttl b = elIx l m now ttl a ++ r := by
  induction h with
  | refl => exact ⟨[], (List.append_nil _).symm⟩
  | step _ ih =>
    obtain ⟨r, hr⟩ := ih; exact ⟨_, by rw [elIx_s, hr, List.append_assoc]⟩
theorem elIx_len (n : Nat) : (elIx l m now ttl n).length <= n := by
  unfold elIx; exact Nat.le_trans (List.length_filter_le _ _) (by rw [List.length_range]; exact Nat.le_refl _)
theorem el_out {n : Nat} (hn : n < l.T.length) (h : elP1 l m now ttl n) : row (.t (elOutT l m now ttl)) (elIx l m now ttl n).length = [cc (enOf (elIt l m now ttl n) (enKey l n)) 0] := by
  obtain ⟨r, hr⟩ := elIx_le (l := l) (m := m) (now := now) (ttl := ttl) (Nat.succ_le_of_lt hn); unfold elOutT; rw [hr, elIx_s, dec_iff.2 h]; unfold row; show ((List.map _ _)[_]?).getD [] = _; rw [List.getElem?_map, List.getElem?_append_left (by simp), List.getElem?_append_right (Nat.le_refl _)]
  simp
theorem el_keep {n : Nat} (h1 : enHas (elIt l m now ttl n) (enKey l n)) (h2 : ¬ enGone (elIt l m now ttl n) now ttl (enKey l n)) : (elIx l m now ttl (n + 1)).length = (elIx l m now ttl n).length + 1 /\ elIt l m now ttl (n + 1) = elIt l m now ttl n := by
  constructor
  . rw [elIx_s, dec_iff.2 (show elP1 l m now ttl n from ⟨h1, h2⟩), if_pos rfl, List.length_append]; rfl
  . show (if _ then _ else _) = _
    rw [dec_no.2 fun q => h2 q.2]; rfl
theorem el_drop {n : Nat} (h1 : enHas (elIt l m now ttl n) (enKey l n)) (h2 : enGone (elIt l m now ttl n) now ttl (enKey l n)) : (elIx l m now ttl (n + 1)).length = (elIx l m now ttl n).length /\ elIt l m now ttl (n + 1) = mdel .s (elIt l m now ttl n) (enKey l n) := by
  constructor
  . rw [elIx_s, dec_no.2 (show ¬ elP1 l m now ttl n from fun q => q.2 h2), if_neg (by simp), List.append_nil]
  . show (if _ then _ else _) = _
    rw [dec_iff.2 ⟨h1, h2⟩]; rfl
theorem el_miss {n : Nat} (h1 : ¬ enHas (elIt l m now ttl n) (enKey l n)) : (elIx l m now ttl (n + 1)).length = (elIx l m now ttl n).length /\ elIt l m now ttl (n + 1) = elIt l m now ttl n := by
  constructor
  . rw [elIx_s, dec_no.2 (show ¬ elP1 l m now ttl n from fun q => h1 q.1), if_neg (by simp), List.append_nil]
  . show (if _ then _ else _) = _
    rw [dec_no.2 fun q => h1 q.1]; rfl
end
section
variable {o : Env}
theorem tl_all (hv : OV o) {r : Nat} (hr : o.v 2155 = .i r) (hent : (tlY.ent 0).Hold o) (hle : (r : Int) <= ((lenE (.v 7560)).den o).I) : AllL o tlL := by
  simp only [tlY, maxF, lenE, pk, List.foldr, SS, implies_true, hv.u203, dec_iff] at hent hle; obtain ⟨hmx, hin⟩ := hent; simp only [tlL, allL_cons, allL_nil, and_true]
  and_intros
  all_goals intro h
  all_goals simp only [SS, implies_true, hr, hv.u202] at h ⊢
  . unfold tlT; rw [row_mapg (by omega)]
    rfl
  . exact h.1 (hin _ (row_mem (by omega)))
  . have : (tlT (o.v 7560) (o.v 7561)).length = (o.v 7560).T.length := by unfold tlT; rw [List.length_map]
    exact ⟨by omega, take_all (by omega)⟩
theorem tk_all {r : Nat} (hr : o.v 2156 = .i r) : AllL o tkL := by
  simp only [tkL, allL_cons, allL_nil, and_true]
  and_intros
  all_goals intro h
  all_goals simp only [SS, implies_true, hr] at h ⊢
  exact take_all (by omega)
theorem el_all (hv : OV o) {r : Nat} (hr : o.v 2157 = .i r) (hent : (elY.ent 0).Hold o) (hle : (r : Int) <= ((lenE (.v 7570)).den o).I) : AllL o elL := by
  simp only [elY, elEnt, maxF, leT, bigE, lenE, pk, List.foldr, SS, implies_true, hv.u208, dec_iff] at hent hle; obtain ⟨hmx, t1, t2, t3, t4, htm⟩ := hent; have hT := el_times (l := o.v 7570) (now := (o.v 7572).I) (ttl := (o.v 7573).I) htm r; have hle2 := elIx_len (l := o.v 7570) (m := o.v 7571) (now := (o.v 7572).I) (ttl := (o.v 7573).I) r; simp only [elL, allL_cons, allL_nil, and_true]
  and_intros
  all_goals intro h
  all_goals simp only [SS, implies_true, hr, hv.u204, hv.u205, hv.u206, hv.u207] at h ⊢
  rotate_right
  . have hr2 : (o.v 7570).T.length = r := by omega
    have hF : (elOutT (o.v 7570) (o.v 7571) (o.v 7572).I (o.v 7573).I).length = (elIx (o.v 7570) (o.v 7571) (o.v 7572).I (o.v 7573).I r).length := by
      unfold elOutT; rw [List.length_map, hr2]
    refine ⟨by omega, by omega, take_all (by omega), ?_⟩
    rw [hr2]
  all_goals (repeat (have b := h.1; replace h := h.2))
  all_goals have hl : r < (o.v 7570).T.length := by omega
  all_goals first
    | have ha : enHas (elIt (o.v 7570) (o.v 7571) (o.v 7572).I (o.v 7573).I r) (enKey (o.v 7570) r) := by assumption
    | have ha : ¬ enHas (elIt (o.v 7570) (o.v 7571) (o.v 7572).I (o.v 7573).I r) (enKey (o.v 7570) r) := by assumption
  all_goals try have hat := en_time hT ha
  all_goals first
    | have hg : enGone (elIt (o.v 7570) (o.v 7571) (o.v 7572).I (o.v 7573).I r) (o.v 7572).I (o.v 7573).I (enKey (o.v 7570) r) := ⟨by assumption, .inl (by assumption)⟩
    | have hg : enGone (elIt (o.v 7570) (o.v 7571) (o.v 7572).I (o.v 7573).I r) (o.v 7572).I (o.v 7573).I (enKey (o.v 7570) r) := ⟨by assumption, .inr (by assumption)⟩
    | have hg : ¬ enGone (elIt (o.v 7570) (o.v 7571) (o.v 7572).I (o.v 7573).I r) (o.v 7572).I (o.v 7573).I (enKey (o.v 7570) r) := fun q => by have := q.1; omega
    | have hg : ¬ enGone (elIt (o.v 7570) (o.v 7571) (o.v 7572).I (o.v 7573).I r) (o.v 7572).I (o.v 7573).I (enKey (o.v 7570) r) := fun q => q.2.elim (fun e => by
        have hx : (cc (enOf (elIt (o.v 7570) (o.v 7571) (o.v 7572).I (o.v 7573).I r) (enKey (o.v 7570) r)) 1).B = true := by assumption
        rw [e] at hx; cases hx) (fun e => absurd e (by assumption))
    | skip
  all_goals first
    | (have hz := el_miss ha)
    | (have hz := el_drop ha hg)
    | (have hz := el_keep ha hg; have hO := el_out hl ⟨ha, hg⟩)
  all_goals obtain ⟨hz, hz2⟩ := hz
  all_goals (try simp only [hO])
  all_goals simp only [hz, hz2]
  all_goals try simp only [enOf, enKey, T_t] at hat
  all_goals try simp only [enOf, enKey, T_t]
  all_goals and_intros
  all_goals first | omega | rfl | assumption | trivial | exact List.Perm.refl _
end
section
variable {o : Env}
theorem tlY_c : Cnt1 Tryz.prog tlY (lenE (.v 7560)) tlL := ⟨by kernel_rfl, by kernel_rfl, rfl, by kernel_rfl, rfl, fun m h => m0_of h, fun m h => m0_of h, fun _ => rfl⟩
theorem tlY_ok (hv : OV o) : LpOk Tryz.prog o fTsList 5 tlY.lpP :=
  tlY_c.ok plain mixed (fun o _ _ => nn_len o) (fun _ _ _ => extOk_none) (fun e i he h hr hl => tl_all (hv.like he) hr h hl)
theorem tkY_c : Cnt1 Tryz.prog tkY (lenE (.v 7565)) tkL := ⟨by kernel_rfl, by kernel_rfl, rfl, by kernel_rfl, rfl, fun m h => m0_of h, fun m h => m0_of h, fun _ => rfl⟩
theorem tkY_ok : LpOk Tryz.prog o fTsKeys 5 tkY.lpP :=
  tkY_c.ok plain mixed (fun o _ _ => nn_len o) (fun _ _ _ => extOk_none) (fun e i he h hr hl => tk_all hr)
theorem elY_c : Cnt1 Tryz.prog elY (lenE (.v 7570)) elL := ⟨by kernel_rfl, by kernel_rfl, rfl, by kernel_rfl, rfl, fun m h => m0_of h, fun m h => m0_of h, fun _ => rfl⟩
theorem elY_ok (hv : OV o) : LpOk Tryz.prog o fExList 4 elY.lpP :=
  elY_c.ok plain mixed (fun o _ _ => nn_len o) (fun _ _ _ => extOk_none) (fun e i he h hr hl => el_all (hv.like he) hr h hl)
end
def metaErr : SV := .ifc tZzErr (.str (.sl noMeta))
def rqY : LoopY where
  f := fExRep; key := 4; N := 65; r := 2160; base := 163000
  js := [10, 11, 12] ++ rgN 24 51
  hd := fun _ => ⟨[(0, .ptr 1 (.c 0)), (6, .nilif), (7, .map 13), (8, .ptr 12 (.c 0)), (21, .dsl aK (.v 7580)), (22, iS (lenE (.v 7580))), (23, iS (.v 2160))],
    (13, itO (.uf 210 (pk [.v 7580, .v 7581, .v 2160])) none) :: (12, .cells 263 [.bool (.bl true), iS (.v 7581)]) :: exW (.v 7582) (.v 7581) (.v 7583) (.v 7584), 20,
    leT (.il 0) (.v 2160) :: leT (.v 2160) (.uf 212 (pk [.v 7580])) :: [(.uf 213 (pk [.v 7580]), true), maxF (.v 7580)]⟩
  ent := fun _ => [(.uf 213 (pk [.v 7580]), true), maxF (.v 7580)]
  app := fun _ => true
  ok0 := fun m => Nat.beq m 0
  modeL := fun _ => .ret 0
  tgt := fun m => Nat.beq m 0
  mf := fun _ => []
  hx := fun n => ⟨[(0, .ptr 1 (.c 0)), (6, match n with | 1 => .ifc 149 (.agg [.ifc tObj (.dptr oK (.o2 (.cell 0) (.v 7580) (.uf 212 (pk [.v 7580]))) (.il 0) 0), metaErr]) | _ => .nilif), (7, .map 13), (8, .top), (21, .top), (22, .top), (23, .top)],
    (13, itO (match n with | 1 => .uf 210 (pk [.v 7580, .v 7581, .uf 212 (pk [.v 7580])]) | _ => .uf 214 (pk [.v 7580, .v 7581])) none) :: exW (.v 7582) (.v 7581) (.v 7583) (.v 7584), 20, []⟩
  xmL := fun ex _ => match ex with | .ret => .ret 1 | _ => .ret 0
  exN := fun n => match n with | 1 => .ret | _ => .exit 0
  exits := [(.uf 211 (pk [.v 7580]), 1), (.bl true, 0)]
  fixed := [1, 2, 3, 4, 5, 6, 7, 10, 13]
  lt := .o2 .lt (.v 2160) (.uf 212 (pk [.v 7580]))
  X := (⟨[(fMeta, metaF.funP)], []⟩ : Ctr).x
  fuel := 400; np := 80
  params := [7580, 7581, 7582, 7583, 7584]
def trR : RgI := ⟨32, 3, 4, .str, 7589⟩
def trY : LoopY where
  f := fTsRep; key := 6; N := 45; r := 2165; base := 164000
  js := [6, 7] ++ rgN 33 45
  hd := fun _ => ⟨[(0, .ptr 1 (.c 0)), (32, .ptr 4 (.c 0))], (4, .itr 3 .str (.v 2165)) :: msH (.v 7585) (.v 7586) (some 4), 20, []⟩
  ent := fun _ => []
  app := fun _ => true
  ok0 := fun m => Nat.beq m 0
  modeL := fun _ => .ret 0
  tgt := fun m => Nat.beq m 0
  mf := fun _ => []
  hx := fun _ => ⟨[(0, .ptr 1 (.c 0)), (32, .top)], msH (.v 7585) (.v 7586) none, 20, []⟩
  xmL := fun _ _ => .ret 0
  exN := fun _ => .exit 0
  exits := [(.bl true, 0)]
  fixed := [1, 3, 6, 7, 10]
  lt := .bl true
  X := XCtr.none
  fuel := 400; np := 80
  params := [7585, 7586]
  dfN := [(76, 1)]
end Go.Proofs.YtdlppkhmmclipaaGreat.sxObj
namespace Go.Proofs.YtdlppkhmmclipaaGreat.sxObj
open Go.Sx
set_option linter.unusedVariables false
abbrev ow0 : E := .o2 (.cell 6) (.o2 (.cell 0) (.v 7580) (.v 2160)) (.il 0)
abbrev ow1 : E := .o2 .lt (.v 2160) (.o1 .tlen (.v 7580))
abbrev ow2 : Facts := [(ow1, true)]
abbrev ow3 : E := .uf 211 (.o2 .cel (.v 7580) (.il 0))
abbrev ow4 : E := .o2 (.cell 0) (.o2 (.cell 0) (.v 7580) (.v 2160)) (.il 0)
abbrev ow5 : E := .o2 (.cell 1) (.o2 (.cell 0) (.v 7580) (.v 2160)) (.il 0)
abbrev ow6 : E := .uf 212 (.o2 .cel (.v 7580) (.il 0))
abbrev ow7 : E := .uf 210 (.o2 .cel (.v 7580) (.o2 .cel (.v 7581) (.o2 .cel (.v 2160) (.il 0))))
abbrev ow8 : E := .uf 100 (.o2 .cel ow4 (.o2 .cel ow5 (.il 0)))
def rqL : List (Facts × List Ob) :=
  [((((ow0, true) : E × Bool) :: ow2),
    [(.e ow3), (.e (.uf 110 (.o2 .cel ow4 (.o2 .cel ow5 (.o2 .cel (.o2 (.cell 4) (.o2 (.cell 0) (.v 7580) (.v 2160)) (.il 0)) (.il 0)))))), (.t (.o2 (.cell 0) (.v 7580) (.v 2160)) (.o2 (.cell 0) (.v 7580) ow6)), (.p ow7 (.uf 210 (.o2 .cel (.v 7580) (.o2 .cel (.v 7581) (.o2 .cel ow6 (.il 0))))))]),
   ((((ow0, false) : E × Bool) :: ow2),
    [(.e (.o2 .lt (.v 2160) ow6)), (.e (.uf 110 (.o2 .cel ow4 (.o2 .cel ow5 (.o2 .cel (.o2 (.cell 4) (.o2 (.cell 0) (.v 7580) (.v 2160)) (.il 0)) (.il 0)))))), (.p (.o2 (.mp .s) ow7 (.o2 .cel ow8 (.o2 .cel (.o2 .cel (.o2 (.cell 0) (.v 7580) (.v 2160)) (.o2 .cel (.bl true) (.o2 .cel (.v 7581) (.o2 .cel ow8 (.il 0))))) (.il 0)))) (.uf 210 (.o2 .cel (.v 7580) (.o2 .cel (.v 7581) (.o2 .cel (.o2 .add (.v 2160) (.il 1)) (.il 0))))))]),
   ([(ow1, false)],
    [(.e (.o1 .not ow3)), (.p ow7 (.uf 214 (.o2 .cel (.v 7580) (.o2 .cel (.v 7581) (.il 0)))))])]
def tr0L : List (Facts × List Ob) :=
  [([],
    [])]
def tr1L : List (Facts × List Ob) :=
  [([((.o2 .le (.il 0) (.o2 (.mf .s) (.v 7585) (.v 7589))), true)],
    [])]
end Go.Proofs.YtdlppkhmmclipaaGreat.sxObj
namespace Go.Proofs.YtdlppkhmmclipaaGreat.sxObj
open Go.Sx Go.RowKit Go.Proofs.YtdlppkhmmclipaaGreat
set_option linter.unusedVariables false
set_option linter.unusedSimpArgs false
set_option maxRecDepth 100000
section
variable {o : Env}
theorem rq_all (hu : OU o) (hv : OV o) {r : Nat} (hr : o.v 2160 = .i r) (hent : (rqY.ent 0).Hold o) (hle : (r : Int) <= ((E.uf 212 (pk [.v 7580])).den o).I) : AllL o rqL := by
  simp only [rqY, maxF, lenE, pk, List.foldr, SS, implies_true, hv.u212, hv.u213, dec_iff] at hent hle; obtain ⟨hok, hmx⟩ := hent; have hle : r <= gN (qa (o.v 7580)) (o.v 7580).T.length := by omega
  simp only [rqL, allL_cons, allL_nil, and_true]
  and_intros
  all_goals intro h
  all_goals simp only [SS, implies_true, hr, hu.u100, hu.u110, hv.u210, hv.u211, hv.u212, hv.u214, dec_iff, dec_no, Classical.not_not] at h ⊢
  . have hb : ¬ qa (o.v 7580) r := fun q => by
      have hq : (cc (anyRow (o.v 7580) r) 6).B = true := h.1; rw [q] at hq; cases hq
    have hg := g_at hle (by omega) hb
    exact ⟨g_bad (r := r) (by omega) hb, hok r (by omega), by rw [hg], by rw [hg]⟩
  . have := g_no hle (by omega) (Q := qa (o.v 7580)) h.1
    exact ⟨by omega, hok r (by omega), List.Perm.refl _⟩
  . have hle2 : r <= stop (fun j => !dec (qa (o.v 7580) j)) (o.v 7580).T.length := hle; have hlen := @stop_le (fun j => !dec (qa (o.v 7580) j)) (o.v 7580).T.length; refine ⟨g_end hle (by omega), ?_⟩
    rw [show (o.v 7580).T.length = r by omega]
end
section
variable {o : Env}
theorem rqY_c : Cnt1 Tryz.prog rqY (.uf 212 (pk [.v 7580])) rqL := ⟨by kernel_rfl, by kernel_rfl, rfl, by kernel_rfl, rfl, fun m h => m0_of h, fun m h => m0_of h, fun _ => rfl⟩
theorem rqY_ok (hu : OU o) (hv : OV o) : LpOk Tryz.prog o fExRep 4 rqY.lpP :=
  rqY_c.ok plain mixed (fun e he h => by simp only [pk, List.foldr, SS, implies_true, (hv.like he).u212]; omega) (fun e A he => ctr_ok (c := ⟨[(fMeta, metaF.funP)], []⟩) (by kernel_rfl) ⟨metaF_ok (hu.like he), trivial⟩ trivial A) (fun e i he h hr hl => rq_all (hu.like he) (hv.like he) hr h hl)
theorem tr0_o : LoopY.oblR Tryz.prog trY trR 0 false = some tr0L := by kernel_rfl
theorem tr1_o : LoopY.oblR Tryz.prog trY trR 0 true = some tr1L := by kernel_rfl
theorem trY_ok : LpOk Tryz.prog o fTsRep 6 trY.lpP := by
  refine LoopY.lp_okR plain mixed (D := trY) (R := trR) (by kernel_rfl) (fun e' he μ0 h0 hent => ?_) (fun _ => rfl)
  obtain rfl := m0_of h0; refine ⟨⟨fun _ vs μ => μ = 0, fun _ b => cond b tr1L tr0L, fun _ _ _ _ => extOk_none, fun u vs μ hm b => ?_, fun u vs μ e hm he0 hO x hx hfx => ?_, fun u vs μ e k hm he0 hC x hx hfx => ?_, fun u vs μ y hm => ?_, fun u vs μ μ' e k hm he0 hC ht _ => ⟨0, rfl, ?_⟩, fun u _ => ⟨0, rfl, SameH.refl _⟩⟩⟩
  . rw [hm]; cases b
    . exact tr0_o
    . exact tr1_o
  . refine allL_mem (env := trY.envR trR e' u (LoopY.visD vs) (e'.v trR.kv)) (L := tr0L) ?_ x hx hfx; simp only [tr0L, allL_cons, allL_nil, and_true]; intro h; simp only [allT_nil]
  . refine allL_mem (env := trY.envR trR e' u (LoopY.visD vs) k) (L := tr1L) ?_ x hx hfx; simp only [tr1L, allL_cons, allL_nil, and_true]; intro h; simp only [allT_nil]
  . rw [hm]; exact hold_nil
  . rw [m0_of ht]; exact SameH.refl _
end
end Go.Proofs.YtdlppkhmmclipaaGreat.sxObj

