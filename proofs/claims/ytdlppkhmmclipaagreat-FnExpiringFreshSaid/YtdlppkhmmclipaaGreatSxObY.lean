/-
  THE LAW FnExpiringFresh (proved): behind every history, an object that is added to a store whose objects expire is there for just as long as it may be. No conditions beside the law's own guards.
-/
import Derived.Test.YtdlppkhmmclipaaGreatSxObI
import Derived.Test.YtdlppkhmmclipaaGreatSxMLoopH
import Derived.Test.YtdlppkhmmclipaaGreatRows
namespace Go.Proofs.YtdlppkhmmclipaaGreat.sxObj
open Go.Sx Go.RowKit Go.Proofs.YtdlppkhmmclipaaGreat
set_option linter.unusedVariables false
def fAwake : Nat := 20
def fFresh : Nat := 6
def tExOp : Nat := 51
def tBool : Nat := 4
def boolK : DKs := .cons .bool .nil
def oE (j : Nat) : E := .v (7613 + j)
def frO : E := pk (pk8 oE)
def frFull : E := .uf 260 (pk [.v 7611, .v 7612, frO])
def frWant : E := .uf 261 (pk [.v 7610, .v 7612])
def frSince (r : E) : E := .uf 262 (pk [.v 7612, r])
def frL (r : E) : E := .uf 266 (pk [.v 7611, .v 7612, frO, r])
def frEnt : Facts := [leT (lenE (.v 7611)) (.il 80), leT (lenE (.v 7612)) (.il 20)]
def frY : LoopY where
  f := fFresh; key := 10; N := 186; r := 2180; base := 170000
  js := [13, 14] ++ rgN 74 114
  hd := fun m => ⟨[(0, iS (.v 7610)), (1, .dsl exK (.v 7611)), (6, .ptr 1 (.c 0)), (8, .bool (.bl false)), (71, .dsl intK (.v 7612)), (72, iS (lenE (.v 7612))), (9, .sl 8 11 (.il 0) (lenE (frL (.v 2180)))), (10, iS (frSince (.v 2180))),
      (11, match m with | 0 => .nilsl | _ => .sl 9 1 (.il 0) (.v 2180)), (73, iS (.v 2180))],
    (match m with | 0 => [] | _ => [(9, .row tBool 1 (.v 2180) (tcCols boolK frWant 0) [])]) ++ [(8, .row tExOp 11 (lenE (frL (.v 2180))) (tcCols exK (frL (.v 2180)) 0) []), (1, .cells tIObj (obj8 oE))], 20,
    (match m with | 0 => [(.o2 .ieq (.v 2180) (.il 0), true)] | _ => [ltT (.il 0) (.v 2180)]) ++ leT (.il 0) (.v 2180) :: leT (.v 2180) (.uf 264 (pk [.v 7612])) :: frEnt⟩
  ent := fun _ => frEnt
  app := fun _ => true
  ok0 := fun m => Nat.beq m 0
  modeL := fun sl => match nth sl 11 with | some .nilsl => .ret 0 | some (.sl ..) => .ret 1 | _ => .fail
  tgt := fun m => Nat.beq m 1
  mf := fun m => match m with | 0 => [(.o2 .ieq (.v 2180) (.il 0), true)] | _ => [ltT (.il 0) (.v 2180)]
  hx := fun n => match n with
    | 1 => ⟨[(0, .top), (1, .top), (6, .ptr 1 (.c 0)), (8, .bool (.bl true)), (71, .top), (72, .top), (9, .top), (10, .top), (11, .top), (73, .top)], [(1, .cells tIObj (obj8 oE))], 20, []⟩
    | _ => ⟨[(0, iS (.v 7610)), (1, .top), (6, .ptr 1 (.c 0)), (8, .bool (.bl false)), (71, .top), (72, .top), (9, .dsl exK frFull), (10, .top), (11, .dsl boolK frWant), (73, .top)], [(1, .cells tIObj (obj8 oE))], 20, []⟩
  xmL := fun ex _ => match ex with | .ret => .ret 1 | _ => .ret 0
  exN := fun n => match n with | 1 => .ret | _ => .exit 0
  exits := [(.uf 263 (pk [.v 7612]), 1), (.bl true, 0)]
  fixed := [1]
  lt := .o2 .lt (.v 2180) (.uf 264 (pk [.v 7612]))
  X := XCtr.none
  fuel := 600; np := 120
  params := [7610, 7611, 7612] ++ rgN 7613 7621
  kds := [(tExOp, exK), (tBool, boolK), (tIObj, objK)]
def qE (j : Nat) : E := .v (7635 + j)
def fqEnt : Facts := [(.uf 265 (pk [.v 7630, .v 7631, .v 7632, .v 7633, pk (pk8 qE)]), true), leT (.il 0) (.v 7632), leT (.v 7632) (.il 100), leT (lenE (.v 7633)) (.il 20)]
def fqX : Ctr := ⟨[(fObjsAt, objsAtF.funP), (fSameObj, soF.funP)], []⟩
def fqY : LoopY where
  f := fFresh; key := 27; N := 186; r := 2181; base := 171000
  js := rgN 18 24 ++ rgN 130 185
  hd := fun _ => ⟨[(6, .ptr 1 (.c 0)), (8, .bool (.bl false)), (12, iS (.v 7632)), (15, .dsl stK (.v 7630)), (16, .str (.v 7631)), (127, .dsl boolK (.v 7633)), (128, iS (lenE (.v 7633))), (129, iS (.v 2181))],
    [(1, .cells tIObj (obj8 qE))], 20, leT (.il 0) (.v 2181) :: leT (.v 2181) (lenE (.v 7633)) :: fqEnt⟩
  ent := fun _ => fqEnt
  app := fun _ => true
  ok0 := fun m => Nat.beq m 0
  modeL := fun _ => .ret 0
  tgt := fun m => Nat.beq m 0
  mf := fun _ => []
  hx := fun n => ⟨[(6, .ptr 1 (.c 0)), (8, .bool (.bl false)), (12, .top), (15, .top), (16, .top), (127, .top), (128, .top), (129, .top)], [(1, .cells tIObj (obj8 qE))], 20, []⟩
  xmL := fun ex _ => match ex with | .ret => .ret 1 | _ => .ret 0
  exN := fun n => match n with | 1 => .ret | _ => .exit 2
  exits := [(.bl false, 1), (.bl true, 0)]
  fixed := [1]
  lt := .o2 .lt (.v 2181) (lenE (.v 7633))
  X := fqX.x
  fuel := 600; np := 120
  params := [7630, 7631, 7632, 7633] ++ rgN 7635 7643
def frX : Ctr := ⟨[(fZz35, z35F.funP), (fZz5, z5F.funP), (fExOps, exF.funP), (fSmObj, smF.funP), (fObjKey, objKeyF.funP), (fAwake, shutP true)], [(fFresh, 10, frY.lpP), (fFresh, 27, fqY.lpP), (fImEx, 5, imY.lpP)]⟩
def frKs : List PK := [.int .i64, .dsl exK, .struct [.str, .str, .str, .str, .dsl pairK, .str, .bool, .bool], .dsl intK]
set_option linter.unusedSimpArgs false
def eB : Dv := .s ⟨[].toArray⟩
def zO : Row := [eB, eB, eB, eB, .i 0, eB, .b false, .b false]
def opR (k : Int) (o : Row) (n : Dv) : Row := [.i k, cc o 0, cc o 1, cc o 2, cc o 3, cc o 4, cc o 5, cc o 6, cc o 7, .i 0, n]
def frAt (o : Row) (w : Dv) (m : Nat) : Row :=
  if m = 0 then opR 1 o (.i 0)
  else if (m - 1) % 4 = 0 then opR 7 zO (cc (row w ((m - 1) / 4)) 0)
  else if (m - 1) % 4 = 1 then opR 4 o (.i 0)
  else if (m - 1) % 4 = 2 then opR 5 zO (.i 0)
  else if (m - 1) / 4 % 4 = 3 then opR 1 o (.i 0) else opR 6 zO (.i 0)
def frT (ops w : Dv) (o : Row) : List Row := ops.T ++ (List.range (1 + 4 * w.T.length)).map (frAt o w)
def sinceN (w : Dv) : Nat -> Int
  | 0 => 0
  | n + 1 => if n % 4 = 3 then 0 else sinceN w n + (cc (row w n) 0).I
def wantT (ttl : Int) (w : Dv) : List Row := (List.range w.T.length).map fun i => [.b (decide (sinceN w i + (cc (row w i) 0).I <= ttl))]
def qw (w : Dv) (j : Nat) : Prop := 0 <= (cc (row w j) 0).I /\ (cc (row w j) 0).I <= 1099511627776
structure FrOne (A key want : Dv) (first : Int) (o : Row) (i : Nat) : Prop where
  g : (cc (row A (first.toNat + 4 * i + 1)) 1).B = (cc (row want i) 0).B
  l : isAt (cc (row A (first.toNat + 4 * i + 2)) 2) key.S = (cc (row want i) 0).B
  k : okRows (cc (row A (first.toNat + 4 * i + 2)) 2).T
  n : (cc (row A (first.toNat + 4 * i + 2)) 2).T.length <= 1000000
  x : (cc (row want i) 0).B = true -> (cc (row A (first.toNat + 4 * i + 1)) 2).T = [o]
structure FrGood (A key want : Dv) (first : Int) (o : Row) : Prop where
  n : first + 4 * (want.T.length : Nat) <= (A.T.length : Nat)
  k : okRow o
  a : ∀ i, i < want.T.length -> FrOne A key want first o i
noncomputable def frUF (c : Nat) (d : Dv) : Dv :=
  match c with
  | 260 => .t (frT (ar d 0) (ar d 1) (row (ar d 2) 0))
  | 261 => .t (wantT (ar d 0).I (ar d 1))
  | 262 => .i (sinceN (ar d 0) (ar d 1).I.toNat)
  | 263 => .b (dec (¬ gAll (qw (ar d 0)) (ar d 0).T.length))
  | 264 => .i (gN (qw (ar d 0)) (ar d 0).T.length : Nat)
  | 265 => .b (dec (FrGood (ar d 0) (ar d 1) (ar d 3) (ar d 2).I (row (ar d 4) 0)))
  | 266 => .t ((frT (ar d 0) (ar d 1) (row (ar d 2) 0)).take ((ar d 0).T.length + 1 + 4 * (ar d 3).I.toNat))
  | _ => .i 0
def OF (o : Env) : Prop := ∀ c d, 260 <= c -> c < 280 -> o.uf c d = frUF c d
theorem OF.like {o o' : Env} (h : OF o) (e : o'.uf = o.uf) : OF o' := fun c d h1 h2 => by rw [e]; exact h c d h1 h2
section
variable {o : Env} (h : OF o) (d : Dv)
include h
theorem OF.u260 : o.uf 260 d = .t (frT (ar d 0) (ar d 1) (row (ar d 2) 0)) := h 260 d (by decide) (by decide)
theorem OF.u266 : o.uf 266 d = .t ((frT (ar d 0) (ar d 1) (row (ar d 2) 0)).take ((ar d 0).T.length + 1 + 4 * (ar d 3).I.toNat)) := h 266 d (by decide) (by decide)
theorem OF.u261 : o.uf 261 d = .t (wantT (ar d 0).I (ar d 1)) := h 261 d (by decide) (by decide)
theorem OF.u262 : o.uf 262 d = .i (sinceN (ar d 0) (ar d 1).I.toNat) := h 262 d (by decide) (by decide)
theorem OF.u263 : o.uf 263 d = .b (dec (¬ gAll (qw (ar d 0)) (ar d 0).T.length)) := h 263 d (by decide) (by decide)
theorem OF.u264 : o.uf 264 d = .i (gN (qw (ar d 0)) (ar d 0).T.length : Nat) := h 264 d (by decide) (by decide)
theorem OF.u265 : o.uf 265 d = .b (dec (FrGood (ar d 0) (ar d 1) (ar d 3) (ar d 2).I (row (ar d 4) 0))) := h 265 d (by decide) (by decide)
end
theorem fr_len {ops w : Dv} {o : Row} : (frT ops w o).length = ops.T.length + (1 + 4 * w.T.length) := by
  unfold frT; rw [List.length_append, List.length_map, List.length_range]
theorem fr_new {ops w : Dv} {o : Row} {m : Nat} (h : m < 1 + 4 * w.T.length) : row (.t (frT ops w o)) (ops.T.length + m) = frAt o w m := by
  unfold row frT; show ((_ ++ _)[_]?).getD [] = _; rw [List.getElem?_append_right (by omega), List.getElem?_map, show ops.T.length + m - ops.T.length = m by omega, List.getElem?_range h]
  rfl
theorem fr_0 {ops w : Dv} {o : Row} : row (.t (frT ops w o)) ops.T.length = opR 1 o (.i 0) := fr_new (m := 0) (by omega)
section
variable {ops w : Dv} {o : Row} {i : Nat} (h : i < w.T.length)
include h
theorem fr_a : row (.t (frT ops w o)) (ops.T.length + 1 + 4 * i) = opR 7 zO (cc (row w i) 0) := by
  rw [show ops.T.length + 1 + 4 * i = ops.T.length + (1 + 4 * i) by omega, fr_new (by omega)]
  unfold frAt; rw [if_neg (by omega), if_pos (by omega), show (1 + 4 * i - 1) / 4 = i by omega]
theorem fr_b : row (.t (frT ops w o)) (ops.T.length + 1 + 4 * i + 1) = opR 4 o (.i 0) := by
  rw [show ops.T.length + 1 + 4 * i + 1 = ops.T.length + (2 + 4 * i) by omega, fr_new (by omega)]
  unfold frAt; rw [if_neg (by omega), if_neg (by omega), if_pos (by omega)]
theorem fr_c : row (.t (frT ops w o)) (ops.T.length + 1 + 4 * i + 2) = opR 5 zO (.i 0) := by
  rw [show ops.T.length + 1 + 4 * i + 2 = ops.T.length + (3 + 4 * i) by omega, fr_new (by omega)]
  unfold frAt; rw [if_neg (by omega), if_neg (by omega), if_neg (by omega), if_pos (by omega)]
theorem fr_d : row (.t (frT ops w o)) (ops.T.length + 1 + 4 * i + 3) = if i % 4 = 3 then opR 1 o (.i 0) else opR 6 zO (.i 0) := by
  rw [show ops.T.length + 1 + 4 * i + 3 = ops.T.length + (4 + 4 * i) by omega, fr_new (by omega)]
  unfold frAt; rw [if_neg (by omega), if_neg (by omega), if_neg (by omega), if_neg (by omega), show (4 + 4 * i - 1) / 4 = i by omega]
end
theorem at_iff {l : List Row} (h : Inc l) {k : ByteArray} : isAt (.t l) k = true ↔ ∃ x ∈ l, kl x = k.toList := by
  constructor
  . intro q; obtain ⟨hl, e⟩ := is_at q; exact ⟨_, List.getElem_mem hl, e⟩
  . rintro ⟨x, hx, e⟩
    by_cases hq : isAt (.t l) k = true
    . exact hq
    . exfalso; rw [<- List.take_append_drop (atN (.t l) k) l] at hx; rcases List.mem_append.1 hx with q | q
      . exact lt_ne (at_low q) e
      . have hu : upN l k = atN (.t l) k := by unfold upN; rw [if_neg hq]
        rw [<- hu] at q; exact lt_ne (at_high h q) e.symm
structure FrI (s : Sp) (o : Row) (ttl since : Int) : Prop where
  t : atV (.t s.M) (kO o) = s.now - since
  m : o ∈ s.S ↔ since <= ttl
  u : ∀ x ∈ s.S, kl x = (kO o).toList -> x = o
structure FrO (o : Row) : Prop where
  b : bad o = false
  e : eight o = o
theorem FrO.k {o : Row} (h : FrO o) : kS o = kO o := by unfold kS; rw [h.b]; rfl
theorem FrO.l {o : Row} (h : FrO o) : kl o = (kO o).toList := by unfold kl; rw [h.k]
theorem op_obj {k : Int} {o : Row} {n : Dv} : opObj (opR k o n) = eight o := rfl
theorem op_key {k : Int} {o : Row} {n : Dv} : opKey (opR k o n) = kO o := rfl
section
variable {s : Sp} {o : Row} {ttl since : Int} {n : Dv}
theorem fr_add (hs : SpG s) (ho : FrO o) (ht : 1 <= ttl) : FrI (spStep ttl (opR 1 o n) s).1 o ttl 0 := by
  rw [st_1 (p := opR 1 o n) rfl ho.b, op_obj, op_key, ho.e]; refine ⟨?_, ⟨fun _ => by omega, fun _ => (mem_with hs.g.i).2 (.inl rfl)⟩, fun x hx e => ?_⟩
  . show atV (.t (mput .s s.M [.s (kO o), .i s.now])) (kO o) = s.now - 0; rw [at_put hs.u, if_pos rfl, Int.sub_zero]; rfl
  . rcases (mem_with hs.g.i).1 hx with q | q
    . exact q
    . exact absurd e q.2
theorem fr_gone (h : atV (.t s.M) (kO o) = s.now - since) (ht : 1 <= ttl) : goneP (.t s.M) s.now ttl (kO o) ↔ ttl < since := by
  unfold goneP; rw [h]; omega
theorem fr_clock {d : Dv} : (spStep ttl (opR 7 zO d) s).1 = ⟨s.now + d.I, s.S, s.M⟩ := by rw [st_7 rfl]; rfl
theorem fr_keys : (spStep ttl (opR 6 zO n) s).1 = s := by rw [st_6 rfl]
theorem fr_get (hs : SpG s) (ho : FrO o) (ht : 1 <= ttl) {a : Int} (ha : a <= since) (h1 : atV (.t s.M) (kO o) = s.now - since) (h2 : o ∈ s.S ↔ a <= ttl) (h3 : ∀ x ∈ s.S, kl x = (kO o).toList -> x = o) :
    FrI (spStep ttl (opR 4 o n) s).1 o ttl since /\ (cc (spStep ttl (opR 4 o n) s).2 1).B = decide (since <= ttl) /\ (since <= ttl -> (cc (spStep ttl (opR 4 o n) s).2 2).T = [o]) := by
  rw [st_4 (p := opR 4 o n) rfl ho.b, op_key]; have hg := fr_gone h1 ht
  have hst : FrI ⟨s.now, alST (.t s.S) (.t s.M) s.now ttl (.s (kO o)) false s.S.length, s.M⟩ o ttl since := by
    refine ⟨h1, ?_, fun x hx e => h3 x ((mem_alive hs.g.i x).1 hx).1 e⟩; rw [mem_alive hs.g.i, h2, ho.k, hg]; constructor
    . rintro ⟨_, q⟩; have : ¬ ttl < since := fun q2 => q ⟨ask_one.2 rfl, q2⟩; omega
    . intro q; exact ⟨by omega, fun q2 => by have := q2.2; omega⟩
  by_cases hc : since <= ttl
  . have hm : o ∈ s.S := h2.2 (by omega)
    obtain ⟨g1, _⟩ := get_keep hs.g (M := s.M) (now := s.now) (ttl := ttl) hm ho.l (fun q => by have := hg.1 q; omega)
    refine ⟨hst, ?_, fun _ => g1⟩; show decide (0 < (alOutT _ _ _ _ _ _).length) = _; rw [g1, decide_eq_true hc]; rfl
  . obtain ⟨g1, _⟩ := get_gone hs.g (M := s.M) (now := s.now) (ttl := ttl) (hg.2 (by omega))
    refine ⟨hst, ?_, fun q => absurd q hc⟩; show decide (0 < (alOutT _ _ _ _ _ _).length) = _; rw [g1, decide_eq_false hc]; rfl
theorem fr_list (hs : SpG s) (ho : FrO o) (ht : 1 <= ttl) (h : FrI s o ttl since) :
    FrI (spStep ttl (opR 5 zO n) s).1 o ttl since /\ isAt (cc (spStep ttl (opR 5 zO n) s).2 2) (kO o) = decide (since <= ttl) /\ ∀ x ∈ (cc (spStep ttl (opR 5 zO n) s).2 2).T, x ∈ s.S := by
  rw [st_5 rfl]; have hg := fr_gone h.t ht; refine ⟨⟨h.t, ?_, fun x hx e => h.u x ((mem_alive hs.g.i x).1 hx).1 e⟩, ?_, fun x hx => alOut_mem hx⟩
  . show o ∈ alST _ _ _ _ _ _ _ ↔ _; rw [mem_alive hs.g.i, h.m, ho.k, hg]; exact ⟨fun q => q.1, fun q => ⟨q, fun q2 => by have := q2.2; omega⟩⟩
  . show isAt (.t (alOutT (.t s.S) (.t s.M) s.now ttl (.s ⟨[].toArray⟩) true)) (kO o) = _; rw [Bool.eq_iff_iff, decide_eq_true_eq, at_iff (good_out hs.g).i]; constructor
    . rintro ⟨x, hx, e⟩; rw [alOut_eq] at hx; obtain ⟨h1, h2⟩ := List.mem_filter.1 hx; have := h.u x h1 e; subst this; exact h.m.1 h1
    . intro q; refine ⟨o, ?_, ho.l⟩; rw [alOut_eq]; refine List.mem_filter.2 ⟨h.m.2 q, dec_iff.2 ⟨ask_all, fun q2 => ?_⟩⟩; rw [ho.k] at q2; have := hg.1 q2; omega
end
section
variable {ops w : Dv} {o : Row} {ttl : Int}
theorem sp_s {L : Dv} {n : Nat} : spSt L ttl (n + 1) = (spStep ttl (row L n) (spSt L ttl n)).1 := rfl
theorem fr_inv (ho : FrO o) (ht : 1 <= ttl) (hw : ∀ j, j < w.T.length -> qw w j) : ∀ i, i <= w.T.length -> FrI (spSt (.t (frT ops w o)) ttl (ops.T.length + 1 + 4 * i)) o ttl (sinceN w i)
  | 0, _ => by
    show FrI (spSt (.t (frT ops w o)) ttl (ops.T.length + 1)) o ttl 0; rw [sp_s, fr_0]; exact fr_add (sp_good _) ho ht
  | i + 1, hi => by
    have ih := fr_inv ho ht hw i (by omega)
    have hd := hw i (by omega)
    have e : ops.T.length + 1 + 4 * (i + 1) = ops.T.length + 1 + 4 * i + 3 + 1 := by omega
    have g0 := sp_good (ops := .t (frT ops w o)) (ttl := ttl) (ops.T.length + 1 + 4 * i + 1); have g1 := sp_good (ops := .t (frT ops w o)) (ttl := ttl) (ops.T.length + 1 + 4 * i + 2); have g2 := sp_good (ops := .t (frT ops w o)) (ttl := ttl) (ops.T.length + 1 + 4 * i + 3); have s0 : spSt (.t (frT ops w o)) ttl (ops.T.length + 1 + 4 * i + 1) = _ := sp_s; have s1 : spSt (.t (frT ops w o)) ttl (ops.T.length + 1 + 4 * i + 2) = _ := sp_s; have s2 : spSt (.t (frT ops w o)) ttl (ops.T.length + 1 + 4 * i + 3) = _ := sp_s; rw [fr_a (by omega), fr_clock] at s0
    rw [fr_b (by omega)] at s1
    rw [fr_c (by omega)] at s2
    have q1 : FrI (spSt (.t (frT ops w o)) ttl (ops.T.length + 1 + 4 * i + 2)) o ttl (sinceN w i + (cc (row w i) 0).I) := by
      rw [s1]; refine (fr_get g0 ho ht (a := sinceN w i) (by have := hd.1; omega) ?_ ?_ ?_).1
      . rw [s0]; show atV _ _ = _ + _ - _; rw [ih.t]; omega
      . rw [s0]; exact ih.m
      . rw [s0]; exact ih.u
    have q2 : FrI (spSt (.t (frT ops w o)) ttl (ops.T.length + 1 + 4 * i + 3)) o ttl (sinceN w i + (cc (row w i) 0).I) := by
      rw [s2]; exact (fr_list g1 ho ht q1).1
    rw [e, sp_s, fr_d (by omega)]
    show FrI _ o ttl (if i % 4 = 3 then 0 else _)
    split
    . exact fr_add g2 ho ht
    . rw [fr_keys]; exact q2
theorem fr_one (ho : FrO o) (ht : 1 <= ttl) (hw : ∀ j, j < w.T.length -> qw w j) (hin : ∀ n, n <= (frT ops w o).length -> SpIn (spSt (.t (frT ops w o)) ttl n) n) (hn : (frT ops w o).length <= 400) {i : Nat} (hi : i < w.T.length) :
    FrOne (.t (spAnsT (.t (frT ops w o)) ttl)) (.s (kO o)) (.t (wantT ttl w)) ((ops.T.length + 1 : Nat) : Int) o i := by
  have ih := fr_inv (ops := ops) ho ht hw i (by omega)
  have hd := hw i hi; have hl := fr_len (ops := ops) (w := w) (o := o); have g0 := sp_good (ops := .t (frT ops w o)) (ttl := ttl) (ops.T.length + 1 + 4 * i + 1); have g1 := sp_good (ops := .t (frT ops w o)) (ttl := ttl) (ops.T.length + 1 + 4 * i + 2); have s0 : spSt (.t (frT ops w o)) ttl (ops.T.length + 1 + 4 * i + 1) = _ := sp_s; have s1 : spSt (.t (frT ops w o)) ttl (ops.T.length + 1 + 4 * i + 2) = _ := sp_s; have a1 := ans_row (ops := .t (frT ops w o)) (ttl := ttl) (n := ops.T.length + 1 + 4 * i + 1) (by show _ < (frT ops w o).length; omega)
  have a2 := ans_row (ops := .t (frT ops w o)) (ttl := ttl) (n := ops.T.length + 1 + 4 * i + 2) (by show _ < (frT ops w o).length; omega)
  rw [fr_a hi, fr_clock] at s0; rw [fr_b hi] at s1 a1; rw [fr_c hi] at a2; have f := fr_get (n := .i 0) g0 ho ht (a := sinceN w i) (since := sinceN w i + (cc (row w i) 0).I) (by have := hd.1; omega) (by rw [s0]; show atV _ _ = _ + _ - _; rw [ih.t]; omega) (by rw [s0]; exact ih.m) (by rw [s0]; exact ih.u)
  have q1 := f.1; rw [<- s1] at q1; have l := fr_list (n := .i 0) g1 ho ht q1; have hi2 := hin (ops.T.length + 1 + 4 * i + 2) (by omega)
  have hw2 : cc (row (.t (wantT ttl w)) i) 0 = .b (decide (sinceN w i + (cc (row w i) 0).I <= ttl)) := by
    unfold row wantT; show cc (((List.map _ _)[i]?).getD []) 0 = _; rw [List.getElem?_map, List.getElem?_range hi]; rfl
  have e1 : ((ops.T.length + 1 : Nat) : Int).toNat = ops.T.length + 1 := Int.toNat_natCast _; refine ⟨?_, ?_, ?_, ?_, ?_⟩
  . rw [e1, a1, hw2]; exact f.2.1
  . rw [e1, a2, hw2]; exact l.2.1
  . rw [e1, a2]; exact fun x hx => hi2.k x (l.2.2 x hx)
  . rw [e1, a2, st_5 rfl]; show (alOutT _ _ _ _ _ _).length <= _
    have h5 : (alOutT (.t (spSt (.t (frT ops w o)) ttl (ops.T.length + 1 + 4 * i + 2)).S) (.t (spSt (.t (frT ops w o)) ttl (ops.T.length + 1 + 4 * i + 2)).M) (spSt (.t (frT ops w o)) ttl (ops.T.length + 1 + 4 * i + 2)).now ttl (.s ⟨[].toArray⟩) true).length <= (spSt (.t (frT ops w o)) ttl (ops.T.length + 1 + 4 * i + 2)).S.length := by
      rw [alOut_eq]; exact List.length_filter_le _ _
    have := hi2.l; omega
  . rw [e1, a1, hw2]; intro q; exact f.2.2 (of_decide_eq_true q)
end
end Go.Proofs.YtdlppkhmmclipaaGreat.sxObj
namespace Go.Proofs.YtdlppkhmmclipaaGreat.sxObj
open Go.Sx
set_option linter.unusedVariables false
abbrev om0 : E := .o2 .lt (.o2 (.cell 0) (.v 7612) (.v 2180)) (.il 0)
abbrev om1 : E := .o2 .lt (.v 2180) (.o1 .tlen (.v 7612))
abbrev om2 : Facts := [(om1, true)]
abbrev om3 : Facts := ((om0, true) : E × Bool) :: om2
abbrev om4 : E := .uf 263 (.o2 .cel (.v 7612) (.il 0))
abbrev om5 : E := .o2 .lt (.il 1099511627776) (.o2 (.cell 0) (.v 7612) (.v 2180))
abbrev om6 : Facts := ((om0, false) : E × Bool) :: om2
abbrev om7 : Facts := ((om5, true) : E × Bool) :: om6
abbrev om8 : E := .o2 .ieq (.o2 .rem (.v 2180) (.il 4)) (.il 3)
abbrev om9 : Facts := ((om5, false) : E × Bool) :: om6
abbrev om10 : Facts := ((om8, true) : E × Bool) :: om9
abbrev om11 : E := .o2 .cel (.v 7613) (.o2 .cel (.v 7614) (.o2 .cel (.v 7615) (.o2 .cel (.v 7616) (.o2 .cel (.v 7617) (.o2 .cel (.v 7618) (.o2 .cel (.v 7619) (.o2 .cel (.v 7620) (.il 0))))))))
abbrev om12 : E := .uf 266 (.o2 .cel (.v 7611) (.o2 .cel (.v 7612) (.o2 .cel om11 (.o2 .cel (.v 2180) (.il 0)))))
abbrev om13 : E := .o1 .tlen om12
abbrev om14 : E := .o2 .add (.uf 262 (.o2 .cel (.v 7612) (.o2 .cel (.v 2180) (.il 0)))) (.o2 (.cell 0) (.v 7612) (.v 2180))
abbrev om15 : E := .o2 .cel (.o2 .add (.v 2180) (.il 1)) (.il 0)
abbrev om16 : E := .uf 266 (.o2 .cel (.v 7611) (.o2 .cel (.v 7612) (.o2 .cel om11 om15)))
abbrev om17 : E := .uf 262 (.o2 .cel (.v 7612) om15)
abbrev om18 : E := .o2 .le om14 (.v 7610)
abbrev om19 : E := .uf 261 (.o2 .cel (.v 7610) (.o2 .cel (.v 7612) (.il 0)))
abbrev om20 : E := .o2 .cel (.il 7) (.o2 .cel (.sl []) (.o2 .cel (.sl []) (.o2 .cel (.sl []) (.o2 .cel (.sl []) (.o2 .cel (.il 0) (.o2 .cel (.sl []) (.o2 .cel (.bl false) (.o2 .cel (.bl false) (.o2 .cel (.il 0) (.o2 .cel (.o2 (.cell 0) (.v 7612) (.v 2180)) (.il 0)))))))))))
abbrev om21 : E := .o2 .cel (.il 0) (.o2 .cel (.il 0) (.il 0))
abbrev om22 : E := .o2 .cel (.v 7613) (.o2 .cel (.v 7614) (.o2 .cel (.v 7615) (.o2 .cel (.v 7616) (.o2 .cel (.v 7617) (.o2 .cel (.v 7618) (.o2 .cel (.v 7619) (.o2 .cel (.v 7620) om21)))))))
abbrev om23 : E := .o2 .cel (.il 4) om22
abbrev om24 : E := .o2 .cel (.sl []) (.o2 .cel (.sl []) (.o2 .cel (.sl []) (.o2 .cel (.sl []) (.o2 .cel (.il 0) (.o2 .cel (.sl []) (.o2 .cel (.bl false) (.o2 .cel (.bl false) om21)))))))
abbrev om25 : E := .o2 .cel (.il 5) om24
abbrev om26 : List Ob := [(.t (.o2 .tcat om12 (.o2 .tcat om20 (.o2 .tcat om23 (.o2 .tcat om25 (.o2 .cel (.il 1) om22))))) om16)]
abbrev om27 : Facts := ((om8, false) : E × Bool) :: om9
abbrev om28 : List Ob := [(.t (.o2 .tcat om12 (.o2 .tcat om20 (.o2 .tcat om23 (.o2 .tcat om25 (.o2 .cel (.il 6) om24))))) om16)]
abbrev om29 : Facts := [(om1, false)]
def fr0L : List (Facts × List Ob) :=
  [(om3,
    [(.e om4)]),
   (om7,
    [(.e om4)]),
   (om10,
    (((.e (.o2 .lt (.v 2180) (.uf 264 (.o2 .cel (.v 7612) (.il 0))))) : Ob) :: ((.e (.o2 .le (.o2 .add om13 (.il 3)) (.il 2147483648))) : Ob) :: ((.e (.o2 .le om13 (.il 2147483648))) : Ob) :: ((.e (.o2 .le om14 (.il 9223372036854775807))) : Ob) :: ((.e (.o2 .le (.il (-9223372036854775808)) om14)) : Ob) :: ((.e (.o2 .ieq (.o2 .add om13 (.il 4)) (.o1 .tlen om16))) : Ob) :: ((.e (.o2 .ieq (.il 0) om17)) : Ob) :: ((.e (.o2 .beq om18 (.o2 (.cell 0) om19 (.il 0)))) : Ob) :: om26)),
   (om27,
    (((.e (.o2 .lt (.v 2180) (.uf 264 (.o2 .cel (.v 7612) (.il 0))))) : Ob) :: ((.e (.o2 .le (.o2 .add om13 (.il 3)) (.il 2147483648))) : Ob) :: ((.e (.o2 .le om13 (.il 2147483648))) : Ob) :: ((.e (.o2 .le om14 (.il 9223372036854775807))) : Ob) :: ((.e (.o2 .le (.il (-9223372036854775808)) om14)) : Ob) :: ((.e (.o2 .ieq (.o2 .add om13 (.il 4)) (.o1 .tlen om16))) : Ob) :: ((.e (.o2 .ieq om14 om17)) : Ob) :: ((.e (.o2 .beq om18 (.o2 (.cell 0) om19 (.il 0)))) : Ob) :: om28)),
   (om29,
    [(.e (.o1 .not om4)), (.t om12 (.uf 260 (.o2 .cel (.v 7611) (.o2 .cel (.v 7612) (.o2 .cel om11 (.il 0)))))), (.t (.il 0) om19)])]
def fr1L : List (Facts × List Ob) :=
  [(om3,
    [(.e om4)]),
   (om7,
    [(.e om4)]),
   (om10,
    (((.e (.o2 .lt (.v 2180) (.uf 264 (.o2 .cel (.v 7612) (.il 0))))) : Ob) :: ((.e (.o2 .le (.o2 .add om13 (.il 3)) (.il 2147483648))) : Ob) :: ((.e (.o2 .le om13 (.il 2147483648))) : Ob) :: ((.e (.o2 .le om14 (.il 9223372036854775807))) : Ob) :: ((.e (.o2 .le (.il (-9223372036854775808)) om14)) : Ob) :: ((.e (.o2 .ieq (.o2 .add om13 (.il 4)) (.o1 .tlen om16))) : Ob) :: ((.e (.o2 .ieq (.il 0) om17)) : Ob) :: ((.e (.o2 .beq om18 (.o2 (.cell 0) om19 (.v 2180)))) : Ob) :: om26)),
   (om27,
    (((.e (.o2 .lt (.v 2180) (.uf 264 (.o2 .cel (.v 7612) (.il 0))))) : Ob) :: ((.e (.o2 .le (.o2 .add om13 (.il 3)) (.il 2147483648))) : Ob) :: ((.e (.o2 .le om13 (.il 2147483648))) : Ob) :: ((.e (.o2 .le om14 (.il 9223372036854775807))) : Ob) :: ((.e (.o2 .le (.il (-9223372036854775808)) om14)) : Ob) :: ((.e (.o2 .ieq (.o2 .add om13 (.il 4)) (.o1 .tlen om16))) : Ob) :: ((.e (.o2 .ieq om14 om17)) : Ob) :: ((.e (.o2 .beq om18 (.o2 (.cell 0) om19 (.v 2180)))) : Ob) :: om28)),
   (om29,
    [(.e (.o1 .not om4)), (.e (.o2 .le (.v 2180) (.o1 .tlen om19))), (.t om12 (.uf 260 (.o2 .cel (.v 7611) (.o2 .cel (.v 7612) (.o2 .cel om11 (.il 0)))))), (.t (.o2 .ttake om19 (.v 2180)) om19)])]
abbrev om30 : E := .o2 .add (.v 7632) (.o2 .mul (.il 4) (.v 2181))
abbrev om31 : E := .o2 .add om30 (.il 1)
abbrev om32 : E := .o2 (.cell 2) (.v 7630) om31
abbrev om33 : E := .o2 .ieq (.o1 .tlen om32) (.il 1)
abbrev om34 : E := .o2 .add om30 (.il 2)
abbrev om35 : E := .o2 (.cell 2) (.v 7630) om34
abbrev om36 : E := .o2 .beq (.uf 105 (.o2 .cel om35 (.o2 .cel (.v 7631) (.il 0)))) (.o2 (.cell 0) (.v 7633) (.v 2181))
abbrev om37 : E := .o2 .beq (.o2 (.cell 1) (.v 7630) om31) (.o2 (.cell 0) (.v 7633) (.v 2181))
abbrev om38 : E := .o2 .lt (.v 2181) (.o1 .tlen (.v 7633))
abbrev om39 : Facts := [(om38, true)]
abbrev om40 : Facts := ((om37, true) : E × Bool) :: om39
abbrev om41 : Facts := ((om36, true) : E × Bool) :: om40
abbrev om42 : Facts := (((.o2 (.cell 0) (.v 7633) (.v 2181)), true) : E × Bool) :: om41
abbrev om43 : E := .o2 (.cell 4) om32 (.il 0)
abbrev om44 : List Ob := [(.e (.o2 .le (.o1 .tlen om35) (.il 1000000))), (.e (.uf 111 (.o2 .cel om35 (.il 0)))), (.e (.o2 .lt om34 (.o1 .tlen (.v 7630)))), (.e (.o2 .le om34 (.il 9223372036854775807))), (.e (.o2 .lt om31 (.o1 .tlen (.v 7630)))), (.e (.o2 .le om31 (.il 9223372036854775807)))]
abbrev om45 : List Ob := ((.e (.bl false)) : Ob) :: om44
def fqL : List (Facts × List Ob) :=
  [((((om33, true) : E × Bool) :: om42),
    (((.e (.o2 .beq (.v 7642) (.o2 (.cell 7) om32 (.il 0)))) : Ob) :: ((.e (.o2 .beq (.v 7641) (.o2 (.cell 6) om32 (.il 0)))) : Ob) :: ((.e (.o2 .seq (.v 7640) (.o2 (.cell 5) om32 (.il 0)))) : Ob) :: ((.t (.v 7639) om43) : Ob) :: ((.e (.o2 .seq (.v 7638) (.o2 (.cell 3) om32 (.il 0)))) : Ob) :: ((.e (.o2 .seq (.v 7637) (.o2 (.cell 2) om32 (.il 0)))) : Ob) :: ((.e (.o2 .seq (.v 7636) (.o2 (.cell 1) om32 (.il 0)))) : Ob) :: ((.e (.o2 .seq (.v 7635) (.o2 (.cell 0) om32 (.il 0)))) : Ob) :: ((.e (.o2 .le (.o1 .tlen om43) (.il 2147483647))) : Ob) :: om44)),
   ((((om33, false) : E × Bool) :: om42),
    om45),
   (((((.o2 (.cell 0) (.v 7633) (.v 2181)), false) : E × Bool) :: om41),
    om44),
   ((((om36, false) : E × Bool) :: om40),
    om45),
   ((((om37, false) : E × Bool) :: om39),
    om45),
   ([(om38, false)],
    [])]
abbrev om46 : E := .o2 .lt (.il 2147483647) (.o1 .tlen (.v 96))
abbrev om47 : E := .uf 136 (.o2 .cel (.v 64) (.o2 .cel (.v 65) (.o2 .cel (.v 66) (.o2 .cel (.v 67) (.o2 .cel (.v 68) (.o2 .cel (.v 69) (.il 0)))))))
abbrev om48 : E := .uf 142 (.o2 .cel (.v 32) (.il 0))
abbrev om49 : Facts := [((.o2 .le (.il (-9223372036854775808)) (.v 0)), true), ((.o2 .le (.v 0) (.il 9223372036854775807)), true), ((.o2 .le (.o1 .tlen (.v 32)) (.il 9223372036854775807)), true), ((.o2 .le (.o1 .tlen (.v 96)) (.il 9223372036854775807)), true)]
abbrev om50 : Facts := ((om48, true) : E × Bool) :: om49
abbrev om51 : Facts := ((om47, true) : E × Bool) :: om50
abbrev om52 : Facts := ((om46, false) : E × Bool) :: om51
abbrev om53 : Facts := (((.o2 .lt (.v 0) (.il 1)), false) : E × Bool) :: om52
abbrev om54 : E := .o2 .cel (.v 64) (.o2 .cel (.v 65) (.o2 .cel (.v 66) (.o2 .cel (.v 67) (.o2 .cel (.v 68) (.o2 .cel (.v 69) (.o2 .cel (.v 70) (.o2 .cel (.v 71) (.il 0))))))))
abbrev om55 : E := .uf 156 (.o2 .cel (.v 32) (.il 0))
abbrev om56 : Facts := (((.o2 .lt (.il 1099511627776) (.v 0)), false) : E × Bool) :: om53
abbrev om57 : Facts := ((om55, true) : E × Bool) :: om56
abbrev om58 : Facts := (((.uf 150 om54), true) : E × Bool) :: om57
abbrev om59 : E := .o2 .lt (.il 20) (.o1 .tlen (.v 96))
abbrev om60 : Facts := (((.v 70), false) : E × Bool) :: om58
abbrev om61 : E := .uf 263 (.o2 .cel (.v 96) (.il 0))
abbrev om62 : E := .o2 .ieq (.o1 .tlen (.v 32)) (.il 0)
abbrev om63 : Facts := ((om59, false) : E × Bool) :: om60
abbrev om64 : Facts := ((om62, true) : E × Bool) :: om63
abbrev om65 : E := .uf 266 (.o2 .cel (.v 32) (.o2 .cel (.v 96) (.o2 .cel om54 (.o2 .cel (.il 0) (.il 0)))))
abbrev om66 : E := .o1 .tlen om65
abbrev om67 : List Ob := [(.e (.o2 .ieq (.il 0) (.o2 (.cell 10) om65 (.il 0)))), (.t (.il 0) (.o2 (.cell 9) om65 (.il 0))), (.e (.o2 .beq (.v 71) (.o2 (.cell 8) om65 (.il 0)))), (.e (.o2 .beq (.v 70) (.o2 (.cell 7) om65 (.il 0)))), (.e (.o2 .seq (.v 69) (.o2 (.cell 6) om65 (.il 0)))), (.t (.v 68) (.o2 (.cell 5) om65 (.il 0))), (.e (.o2 .seq (.v 67) (.o2 (.cell 4) om65 (.il 0)))), (.e (.o2 .seq (.v 66) (.o2 (.cell 3) om65 (.il 0)))), (.e (.o2 .seq (.v 65) (.o2 (.cell 2) om65 (.il 0)))), (.e (.o2 .seq (.v 64) (.o2 (.cell 1) om65 (.il 0)))), (.e (.o2 .ieq (.il 1) (.o2 (.cell 0) om65 (.il 0)))), (.e (.o2 .ieq om66 (.il 1))), (.e (.o2 .ieq (.il 0) (.uf 262 (.o2 .cel (.v 96) (.o2 .cel (.il 0) (.il 0)))))), (.e (.o2 .ieq (.il 1) om66))]
abbrev om68 : E := .o2 .cel om54 (.il 0)
abbrev om69 : E := .uf 260 (.o2 .cel (.v 32) (.o2 .cel (.v 96) om68))
abbrev om70 : E := .uf 173 (.o2 .cel om69 (.o2 .cel (.v 0) (.il 0)))
abbrev om71 : E := .o1 .tlen om69
abbrev om72 : E := .o2 .ieq (.o1 .tlen om70) om71
abbrev om73 : Facts := ((om61, false) : E × Bool) :: om64
abbrev om74 : E := .uf 261 (.o2 .cel (.v 0) (.o2 .cel (.v 96) (.il 0)))
abbrev om75 : E := .uf 100 (.o2 .cel (.v 64) (.o2 .cel (.v 65) (.il 0)))
abbrev om76 : E := .o2 .cel om74 om68
abbrev om77 : E := .o2 .cel om69 (.o2 .cel (.v 0) (.o2 .cel (.il 0) (.il 0)))
abbrev om78 : E := .o2 .cel om69 (.il 0)
abbrev om79 : List Ob := ((.e (.o2 .seq (.sl []) (.uf 216 om77))) : Ob) :: ((.t (.il 0) (.uf 215 om77)) : Ob) :: ((.e (.o2 .ieq (.il 0) (.uf 170 om77))) : Ob) :: ((.e (.o2 .le om71 (.il 400))) : Ob) :: ((.e (.uf 174 om78)) : Ob) :: ((.e (.uf 142 om78)) : Ob) :: om67
abbrev om80 : Facts := ((om62, false) : E × Bool) :: om63
abbrev om81 : E := .o2 .add (.o1 .tlen (.v 32)) (.il 1)
abbrev om82 : List Ob := [(.t (.o2 .tcat (.v 32) (.o2 .cel (.il 1) (.o2 .cel (.v 64) (.o2 .cel (.v 65) (.o2 .cel (.v 66) (.o2 .cel (.v 67) (.o2 .cel (.v 68) (.o2 .cel (.v 69) (.o2 .cel (.v 70) (.o2 .cel (.v 71) om21)))))))))) om65), (.e (.o2 .ieq (.il 0) (.uf 262 (.o2 .cel (.v 96) (.o2 .cel (.il 0) (.il 0)))))), (.e (.o2 .ieq om81 om66)), (.e (.o2 .le (.o1 .tlen (.v 32)) (.il 80))), (.e (.o2 .le (.o1 .tlen (.v 32)) (.il 2147483648))), (.e (.o2 .le (.o1 .tlen (.v 32)) (.il 2147483648)))]
abbrev om83 : Facts := ((om61, false) : E × Bool) :: om80
abbrev om84 : List Ob := ((.e (.o2 .seq (.sl []) (.uf 216 om77))) : Ob) :: ((.t (.il 0) (.uf 215 om77)) : Ob) :: ((.e (.o2 .ieq (.il 0) (.uf 170 om77))) : Ob) :: ((.e (.o2 .le om71 (.il 400))) : Ob) :: ((.e (.uf 174 om78)) : Ob) :: ((.e (.uf 142 om78)) : Ob) :: om82
def lawFL : List (Facts × List Ob) :=
  [((((om46, true) : E × Bool) :: om51),
    [(.e (.bl true))]),
   (((((.o2 .lt (.v 0) (.il 1)), true) : E × Bool) :: om52),
    [(.e (.bl true))]),
   (((((.o2 .lt (.il 1099511627776) (.v 0)), true) : E × Bool) :: om53),
    [(.e (.bl true))]),
   (((((.v 70), true) : E × Bool) :: om58),
    [(.e (.bl true))]),
   ((((om59, true) : E × Bool) :: om60),
    [(.e (.bl true))]),
   ((((om61, true) : E × Bool) :: om64),
    (((.e (.bl true)) : Ob) :: om67)),
   ((((om72, true) : E × Bool) :: om73),
    (((.e (.bl true)) : Ob) :: ((.e (.o2 .le (.o1 .tlen om74) (.il 20))) : Ob) :: ((.e (.uf 265 (.o2 .cel om70 (.o2 .cel om75 (.o2 .cel (.il 1) om76))))) : Ob) :: ((.e (.uf 110 (.o2 .cel (.v 64) (.o2 .cel (.v 65) (.o2 .cel (.v 68) (.il 0)))))) : Ob) :: om79)),
   ((((om72, false) : E × Bool) :: om73),
    (((.e (.bl false)) : Ob) :: om79)),
   ((((om61, true) : E × Bool) :: om80),
    (((.e (.bl true)) : Ob) :: om82)),
   ((((om72, true) : E × Bool) :: om83),
    (((.e (.bl true)) : Ob) :: ((.e (.o2 .le (.o1 .tlen om74) (.il 20))) : Ob) :: ((.e (.o2 .le om81 (.il 100))) : Ob) :: ((.e (.uf 265 (.o2 .cel om70 (.o2 .cel om75 (.o2 .cel om81 om76))))) : Ob) :: ((.e (.uf 110 (.o2 .cel (.v 64) (.o2 .cel (.v 65) (.o2 .cel (.v 68) (.il 0)))))) : Ob) :: om84)),
   ((((om72, false) : E × Bool) :: om83),
    (((.e (.bl false)) : Ob) :: om84)),
   (((((.uf 150 om54), false) : E × Bool) :: om57),
    [(.e (.bl true))]),
   ((((om55, false) : E × Bool) :: om56),
    [(.e (.bl true))]),
   ((((om47, false) : E × Bool) :: om50),
    [(.e (.bl true))]),
   ((((om48, false) : E × Bool) :: om49),
    [(.e (.bl true))])]
end Go.Proofs.YtdlppkhmmclipaaGreat.sxObj
namespace Go.Proofs.YtdlppkhmmclipaaGreat.sxObj
open Go.Sx Go.RowKit Go.Proofs.YtdlppkhmmclipaaGreat
set_option linter.unusedVariables false
set_option linter.unusedSimpArgs false
set_option maxRecDepth 100000
theorem take_row {l : List Row} {k : Nat} (h : k < l.length) : l.take (k + 1) = l.take k ++ [row (.t l) k] := by
  rw [List.take_add_one, List.getElem?_eq_getElem h, row_get (l := .t l) h]; rfl
section
variable {ops w : Dv} {o : Row}
def frTake (ops w : Dv) (o : Row) (i : Nat) : List Row := (frT ops w o).take (ops.T.length + 1 + 4 * i)
theorem ft_0 : frTake ops w o 0 = ops.T ++ [opR 1 o (.i 0)] := by
  have hl := fr_len (ops := ops) (w := w) (o := o); show (frT ops w o).take (ops.T.length + 1) = _; rw [take_row (by omega), fr_0]
  congr 1
  unfold frT; exact List.take_left' rfl
theorem ft_s {i : Nat} (h : i < w.T.length) : frTake ops w o (i + 1) = frTake ops w o i ++ [opR 7 zO (cc (row w i) 0), opR 4 o (.i 0), opR 5 zO (.i 0), if i % 4 = 3 then opR 1 o (.i 0) else opR 6 zO (.i 0)] := by
  have hl := fr_len (ops := ops) (w := w) (o := o); unfold frTake
  rw [show ops.T.length + 1 + 4 * (i + 1) = ops.T.length + 1 + 4 * i + 1 + 1 + 1 + 1 by omega, take_row (by omega), take_row (by omega), take_row (by omega), take_row (by omega),
    fr_a h, fr_b h, fr_c h, fr_d h]
  simp only [List.append_assoc, List.cons_append, List.nil_append]
theorem ft_all {i : Nat} (h : ¬ i < w.T.length) : frTake ops w o i = frT ops w o := List.take_of_length_le (by rw [fr_len]; omega)
theorem ft_len {i : Nat} (h : i <= w.T.length) : (frTake ops w o i).length = ops.T.length + 1 + 4 * i := by
  unfold frTake; rw [List.length_take, fr_len]; omega
theorem since_b {n : Nat} (hw : ∀ j, j < w.T.length -> j < n -> qw w j) : ∀ i, i <= n -> i <= w.T.length -> 0 <= sinceN w i /\ sinceN w i <= 1099511627776 * i
  | 0, _, _ => ⟨Int.le_refl _, Int.le_refl _⟩
  | i + 1, h1, h2 => by
    have ih := since_b hw i (by omega) (by omega)
    have hd := hw i (by omega) (by omega)
    have e : sinceN w (i + 1) = if i % 4 = 3 then 0 else sinceN w i + (cc (row w i) 0).I := rfl
    obtain ⟨d1, d2⟩ := hd; rw [e]; split <;> omega
theorem want_row {ttl : Int} {i : Nat} (h : i < w.T.length) : row (.t (wantT ttl w)) i = [.b (decide (sinceN w i + (cc (row w i) 0).I <= ttl))] := by
  unfold row wantT; show ((List.map _ _)[i]?).getD [] = _; rw [List.getElem?_map, List.getElem?_range h]; rfl
theorem want_len {ttl : Int} : (wantT ttl w).length = w.T.length := by unfold wantT; rw [List.length_map, List.length_range]
end
section
variable {o : Env}
theorem tmod4 {r : Nat} : ((r : Int).tmod 4 = 3 ↔ r % 4 = 3) := by
  rw [Int.tmod_eq_emod_of_nonneg (by omega)]
  omega
theorem fr1_all (hf : OF o) {r : Nat} (hr : o.v 2180 = .i r) (hent : (frY.ent 0).Hold o) (hle : (r : Int) <= ((E.uf 264 (pk [.v 7612])).den o).I) : AllL o fr1L := by
  simp only [frY, frEnt, leT, lenE, pk, List.foldr, SS, implies_true, hf.u264] at hent hle; obtain ⟨h80, h20⟩ := hent; have hle : r <= gN (qw (o.v 7612)) (o.v 7612).T.length := by omega
  have hgl : gN (qw (o.v 7612)) (o.v 7612).T.length <= (o.v 7612).T.length := stop_le
  have hq : ∀ j, j < (o.v 7612).T.length -> j < r -> qw (o.v 7612) j := fun j h1 h2 => by
    have h2 : j < stop (fun j => !dec (qw (o.v 7612) j)) (o.v 7612).T.length := Nat.lt_of_lt_of_le h2 hle; have h3 := stop_before h2; have h3 : dec (qw (o.v 7612) j) = true := by simpa using h3
    exact dec_iff.1 h3
  have hb := since_b hq r (Nat.le_refl _) (by omega)
  have hln := ft_len (ops := o.v 7611) (w := o.v 7612) (o := [o.v 7613, o.v 7614, o.v 7615, o.v 7616, o.v 7617, o.v 7618, o.v 7619, o.v 7620]) (i := r) (by omega)
  simp only [fr1L, allL_cons, allL_nil, and_true]
  and_intros
  all_goals intro h
  all_goals simp only [SS, implies_true, hr, hf.u260, hf.u261, hf.u262, hf.u263, hf.u264, hf.u266, dec_iff, dec_no, Classical.not_not, dI_rem] at h ⊢
  . exact g_bad (r := r) (by omega) (fun q => by have := q.1; omega)
  . exact g_bad (r := r) (by omega) (fun q => by have := q.2; omega)
  rotate_right
  . refine ⟨g_end hle (by omega), ?_, ft_all (by omega), take_all ?_⟩
    . rw [want_len]; omega
    . rw [want_len]; omega
  all_goals have hl : r < (o.v 7612).T.length := by omega
  all_goals have hd : qw (o.v 7612) r := ⟨by omega, by omega⟩
  all_goals have hg := g_no hle hl hd
  all_goals obtain ⟨d1, d2⟩ := hd
  all_goals have hs := ft_s (ops := o.v 7611) (o := [o.v 7613, o.v 7614, o.v 7615, o.v 7616, o.v 7617, o.v 7618, o.v 7619, o.v 7620]) hl
  all_goals have hln2 := ft_len (ops := o.v 7611) (w := o.v 7612) (o := [o.v 7613, o.v 7614, o.v 7615, o.v 7616, o.v 7617, o.v 7618, o.v 7619, o.v 7620]) (i := r + 1) (by omega)
  all_goals have hw := want_row (ttl := (o.v 7610).I) hl
  all_goals have hsn : sinceN (o.v 7612) (r + 1) = if r % 4 = 3 then 0 else sinceN (o.v 7612) r + (cc (row (o.v 7612) r) 0).I := rfl
  all_goals change List.length _ = _ at hln hln2
  all_goals unfold frTake at hln hln2 hs
  . have h4 := tmod4.1 h.1; rw [if_pos h4] at hsn hs
    repeat' refine And.intro ?_ ?_
    all_goals first
      | omega
      | exact hsn.symm
      | exact hs.symm
      | (rw [hw]; rfl)
  . have h4 : ¬ r % 4 = 3 := fun q => h.1 (tmod4.2 q); rw [if_neg h4] at hsn hs
    repeat' refine And.intro ?_ ?_
    all_goals first
      | omega
      | exact hsn.symm
      | exact hs.symm
      | (rw [hw]; rfl)
theorem fr0_all (hf : OF o) {r : Nat} (hr : o.v 2180 = .i r) (hent : (frY.ent 0).Hold o) (hmf : (frY.mf 0).Hold o) (hle : (r : Int) <= ((E.uf 264 (pk [.v 7612])).den o).I) : AllL o fr0L := by
  have hmf : Facts.Hold o [(.o2 .ieq (.v 2180) (.il 0), true)] := hmf; simp only [SS, implies_true, hr] at hmf; have hr0 : r = 0 := by omega
  simp only [frY, frEnt, leT, lenE, pk, List.foldr, SS, implies_true, hf.u264] at hent hle; obtain ⟨h80, h20⟩ := hent; have hle : r <= gN (qw (o.v 7612)) (o.v 7612).T.length := by omega
  have hgl : gN (qw (o.v 7612)) (o.v 7612).T.length <= (o.v 7612).T.length := stop_le
  have hq : ∀ j, j < (o.v 7612).T.length -> j < r -> qw (o.v 7612) j := fun j h1 h2 => by
    have h2 : j < stop (fun j => !dec (qw (o.v 7612) j)) (o.v 7612).T.length := Nat.lt_of_lt_of_le h2 hle; have h3 := stop_before h2; have h3 : dec (qw (o.v 7612) j) = true := by simpa using h3
    exact dec_iff.1 h3
  have hb := since_b hq r (Nat.le_refl _) (by omega)
  have hln := ft_len (ops := o.v 7611) (w := o.v 7612) (o := [o.v 7613, o.v 7614, o.v 7615, o.v 7616, o.v 7617, o.v 7618, o.v 7619, o.v 7620]) (i := r) (by omega)
  simp only [fr0L, allL_cons, allL_nil, and_true]
  and_intros
  all_goals intro h
  all_goals simp only [SS, implies_true, hr, hf.u260, hf.u261, hf.u262, hf.u263, hf.u264, hf.u266, dec_iff, dec_no, Classical.not_not, dI_rem] at h ⊢
  . exact g_bad (r := r) (by omega) (fun q => by have := q.1; omega)
  . exact g_bad (r := r) (by omega) (fun q => by have := q.2; omega)
  rotate_right
  . refine ⟨g_end hle (by omega), ft_all (by omega), ?_⟩
    have : (wantT (o.v 7610).I (o.v 7612)).length = 0 := by rw [want_len]; omega
    exact (List.length_eq_zero_iff.1 this).symm
  all_goals have hl : r < (o.v 7612).T.length := by omega
  all_goals have hd : qw (o.v 7612) r := ⟨by omega, by omega⟩
  all_goals have hg := g_no hle hl hd
  all_goals obtain ⟨d1, d2⟩ := hd
  all_goals have hs := ft_s (ops := o.v 7611) (o := [o.v 7613, o.v 7614, o.v 7615, o.v 7616, o.v 7617, o.v 7618, o.v 7619, o.v 7620]) hl
  all_goals have hln2 := ft_len (ops := o.v 7611) (w := o.v 7612) (o := [o.v 7613, o.v 7614, o.v 7615, o.v 7616, o.v 7617, o.v 7618, o.v 7619, o.v 7620]) (i := r + 1) (by omega)
  all_goals have hw := want_row (ttl := (o.v 7610).I) hl
  all_goals have hsn : sinceN (o.v 7612) (r + 1) = if r % 4 = 3 then 0 else sinceN (o.v 7612) r + (cc (row (o.v 7612) r) 0).I := rfl
  all_goals change List.length _ = _ at hln hln2
  all_goals unfold frTake at hln hln2 hs
  . have h4 := tmod4.1 h.1; omega
  . have h4 : ¬ r % 4 = 3 := fun q => h.1 (tmod4.2 q); rw [if_neg h4] at hsn hs
    conv at hw => lhs; rw [hr0]
    repeat' refine And.intro ?_ ?_
    all_goals first
      | omega
      | exact hsn.symm
      | exact hs.symm
      | (rw [hw]; rfl)
theorem fq_all (hu : OU o) (hf : OF o) {r : Nat} (hr : o.v 2181 = .i r) (hent : (fqY.ent 0).Hold o) (hle : (r : Int) <= ((lenE (.v 7633)).den o).I) : AllL o fqL := by
  simp only [fqY, fqEnt, leT, lenE, pk8, qE, pk, List.foldr, SS, implies_true, hf.u265, dec_iff] at hent hle; obtain ⟨⟨gn, gk, ga⟩, t1, t2, t3⟩ := hent; simp only [fqL, allL_cons, allL_nil, and_true]
  and_intros
  all_goals intro h
  all_goals simp only [SS, implies_true, hr, hu.u105, hu.u111, dec_iff, dec_no, Classical.not_not] at h ⊢
  all_goals (repeat (have b := h.1; replace h := h.2))
  all_goals have hl : r < (o.v 7633).T.length := by omega
  all_goals obtain ⟨x1, x2, x3, x4, x5⟩ := ga r hl
  all_goals have e1 : ((o.v 7632).I + 4 * (r : Int) + 1).toNat = (o.v 7632).I.toNat + 4 * r + 1 := by omega
  all_goals have e2 : ((o.v 7632).I + 4 * (r : Int) + 2).toNat = (o.v 7632).I.toNat + 4 * r + 2 := by omega
  all_goals simp only [e1, e2] at *
  . have hx := x5 (by assumption)
    have hr2 : row (cc (row (o.v 7630) ((o.v 7632).I.toNat + 4 * r + 1)) 2) 0 = [o.v 7635, o.v 7636, o.v 7637, o.v 7638, o.v 7639, o.v 7640, o.v 7641, o.v 7642] := by
      show ((cc (row (o.v 7630) ((o.v 7632).I.toNat + 4 * r + 1)) 2).T[0]?).getD [] = _; rw [hx]; rfl
    rw [hr2]; exact ⟨rfl, rfl, rfl, rfl, rfl, rfl, rfl, rfl, by have := gk.2.2; show ((o.v 7639).T.length : Int) <= _; have h9 : (o.v 7639).T.length <= 2147483647 := gk.2.2; omega, by omega, x3, by omega, by omega, by omega, by omega⟩
  . have hx := x5 (by assumption)
    have h1 : ¬ ((cc (row (o.v 7630) ((o.v 7632).I.toNat + 4 * r + 1)) 2).T.length : Int) = 1 := by assumption
    rw [hx] at h1; exact h1 rfl
  . exact ⟨by omega, x3, by omega, by omega, by omega, by omega⟩
  . simp_all
  . simp_all
end
theorem fr_rows {ops w : Dv} {o p : Row} (h : p ∈ frT ops w o) (hw : ∀ j, j < w.T.length -> qw w j) : p ∈ ops.T \/ (∃ k : Int, p = opR k o (.i 0)) \/ ∃ (k : Int) (d : Dv), p = opR k zO d /\ 0 <= d.I /\ d.I <= 1099511627776 := by
  unfold frT at h; rcases List.mem_append.1 h with h | h
  . exact .inl h
  . refine .inr ?_; obtain ⟨m, hm, rfl⟩ := List.mem_map.1 h; have hm := List.mem_range.1 hm; unfold frAt; split
    . exact .inl ⟨_, rfl⟩
    split
    . have := hw ((m - 1) / 4) (by omega)
      exact .inr ⟨_, _, rfl, this.1, this.2⟩
    split
    . exact .inl ⟨_, rfl⟩
    split
    . exact .inr ⟨_, _, rfl, Int.le_refl _, by decide⟩
    split
    . exact .inl ⟨_, rfl⟩
    . exact .inr ⟨_, _, rfl, Int.le_refl _, by decide⟩
theorem fits6_0 : fits6 (.i 0) := ⟨fun j hj => absurd hj (Nat.not_lt_zero _), Nat.zero_le _⟩
theorem fits18_0 : fits18 (.i 0) := ⟨fun j hj => absurd hj (Nat.not_lt_zero _), Nat.zero_le _⟩
theorem fr_fits {ops w : Dv} {o : Row} (h : fits35 ops) (ho : fit5 (cc o 0) (cc o 1) (cc o 2) (cc o 3) (cc o 4) (cc o 5)) (hw : ∀ j, j < w.T.length -> qw w j) (hn : (frT ops w o).length <= 400) : fits35 (.t (frT ops w o)) := by
  refine ⟨fun j hj => ?_, Nat.le_trans hn (by decide)⟩
  have hm : row (.t (frT ops w o)) j ∈ frT ops w o := row_mem (d := .t (frT ops w o)) hj; show fit5 _ _ _ _ _ _ /\ fits18 _; generalize row (.t (frT ops w o)) j = p at hm ⊢; rcases fr_rows hm hw with q | ⟨k, rfl⟩ | ⟨k, d, rfl, _, _⟩
  . obtain ⟨n, hn, rfl⟩ := mem_row q; exact h.1 n hn
  . exact ⟨ho, fits18_0⟩
  . exact ⟨⟨Nat.zero_le _, Nat.zero_le _, Nat.zero_le _, Nat.zero_le _, fits6_0, Nat.zero_le _⟩, fits18_0⟩
theorem fr_fine {ops w : Dv} {o : Row} (h : exFine ops) (hw : ∀ j, j < w.T.length -> qw w j) (hn : (frT ops w o).length <= 400) : exFine (.t (frT ops w o)) := by
  refine ⟨fun j hj => ?_, hn⟩; have hm : row (.t (frT ops w o)) j ∈ frT ops w o := row_mem (d := .t (frT ops w o)) hj; show _ /\ _ /\ _; generalize row (.t (frT ops w o)) j = p at hm ⊢; rcases fr_rows hm hw with q | ⟨k, rfl⟩ | ⟨k, d, rfl, h1, h2⟩
  . obtain ⟨n, hn, rfl⟩ := mem_row q; exact h.1 n hn
  . exact ⟨Nat.zero_le _, Int.le_refl _, by show (0 : Int) <= _; decide⟩
  . exact ⟨Nat.zero_le _, h1, h2⟩
theorem fr_good {ops w : Dv} {o : Row} {ttl : Int} (h1 : fits35 ops) (h2 : exFine ops) (hb : bad o = false) (he : eight o = o) (hf : fit5 (cc o 0) (cc o 1) (cc o 2) (cc o 3) (cc o 4) (cc o 5)) (hw : ∀ j, j < w.T.length -> qw w j) (hn : (frT ops w o).length <= 400) (ht : 1 <= ttl) :
    FrGood (.t (spAnsT (.t (frT ops w o)) ttl)) (.s (kO o)) (.t (wantT ttl w)) ((ops.T.length + 1 : Nat) : Int) o := by
  have g1 := fr_fits (w := w) h1 hf hw hn; have g2 := fr_fine (o := o) h2 hw hn; have hl := fr_len (ops := ops) (w := w) (o := o); refine ⟨?_, ?_, fun i hi => ?_⟩
  . show _ + 4 * (((wantT ttl w).length : Nat) : Int) <= (((spAnsT _ _).length : Nat) : Int); rw [ans_len, want_len]; show _ <= (((frT ops w o).length : Nat) : Int); rw [hl]; omega
  . obtain ⟨a, b, _, _, c, _⟩ := hf; exact ⟨a, b, c.2⟩
  . have hi : i < w.T.length := by
      have : i < (wantT ttl w).length := hi; rwa [want_len] at this
    exact fr_one ⟨hb, he⟩ ht hw (fun n hn' => sp_in (fun n hn => op_in g1 g2 hn) hn n hn') hn hi
section
variable {o : Env}
theorem lawF_all (hu : OU o) (hv : OV o) (hf : OF o) : AllL o lawFL := by
  simp only [lawFL, allL_cons, allL_nil, and_true]
  and_intros
  all_goals intro h
  all_goals simp only [SS, implies_true, hu.u100, hu.u110, hu.u132, hu.u136, hu.u142, hu.u150, hu.u156, hu.u170, hu.u172, hu.u173, hu.u174, hv.u215, hv.u216, hf.u260, hf.u261, hf.u262, hf.u263, hf.u265, hf.u266, dec_iff, dec_no, Classical.not_not] at h ⊢
  all_goals (repeat (have b := h.1; replace h := h.2))
  all_goals have hG : exGood (o.v 32) := by assumption
  all_goals have hf5 : fit5 (o.v 64) (o.v 65) (o.v 66) (o.v 67) (o.v 68) (o.v 69) := by assumption
  all_goals have hf35 : fits35 (o.v 32) := by assumption
  all_goals have hbad : (o.v 70).B = false := by assumption
  all_goals have h20 : ¬ (20 : Int) < ((o.v 96).T.length : Nat) := by assumption
  all_goals have h1 : ¬ (o.v 0).I < 1 := by assumption
  all_goals have hl := fr_len (ops := o.v 32) (w := o.v 96) (o := [o.v 64, o.v 65, o.v 66, o.v 67, o.v 68, o.v 69, o.v 70, o.v 71])
  all_goals have h80 := hG.2
  all_goals have hn : (frT (o.v 32) (o.v 96) [o.v 64, o.v 65, o.v 66, o.v 67, o.v 68, o.v 69, o.v 70, o.v 71]).length <= 400 := by omega
  all_goals have t0 : List.take ((o.v 32).T.length + 1 + 4 * 0) (frT (o.v 32) (o.v 96) [o.v 64, o.v 65, o.v 66, o.v 67, o.v 68, o.v 69, o.v 70, o.v 71]) = (o.v 32).T ++ [opR 1 [o.v 64, o.v 65, o.v 66, o.v 67, o.v 68, o.v 69, o.v 70, o.v 71] (.i 0)] := ft_0
  all_goals have t1 : ((o.v 32).T ++ [opR 1 [o.v 64, o.v 65, o.v 66, o.v 67, o.v 68, o.v 69, o.v 70, o.v 71] (.i 0)]).length = (o.v 32).T.length + 1 := by rw [List.length_append]; rfl
  all_goals have wl : (wantT (o.v 0).I (o.v 96)).length = (o.v 96).T.length := want_len
  all_goals try have hw : gAll (qw (o.v 96)) (o.v 96).T.length := by assumption
  all_goals try have F1 := fr_fits (o := [o.v 64, o.v 65, o.v 66, o.v 67, o.v 68, o.v 69, o.v 70, o.v 71]) hf35 hf5 hw hn
  all_goals try have F2 := fr_fine (o := [o.v 64, o.v 65, o.v 66, o.v 67, o.v 68, o.v 69, o.v 70, o.v 71]) (fine_of hG) hw hn
  all_goals try have F3 := fr_good (o := [o.v 64, o.v 65, o.v 66, o.v 67, o.v 68, o.v 69, o.v 70, o.v 71]) (ttl := (o.v 0).I) hf35 (fine_of hG) hbad rfl hf5 hw hn (by omega)
  . have e0 : (o.v 32).T = [] := List.length_eq_zero_iff.1 (by omega)
    rw [t0, e0]; exact ⟨rfl, rfl, rfl, rfl, rfl, rfl, rfl, rfl, rfl, rfl, rfl, rfl, rfl, rfl⟩
  . have e0 : (o.v 32).T = [] := List.length_eq_zero_iff.1 (by omega)
    have e1 : ((o.v 32).T.length : Int) = 0 := by omega
    rw [show (((o.v 32).T.length + 1 : Nat) : Int) = 1 by omega] at F3
    rw [t0, e0]; refine ⟨by omega, F3, ⟨hf5.1, hf5.2.1, hf5.2.2.2.2.1.2⟩, rfl, rfl, rfl, by omega, F2, F1, rfl, rfl, rfl, rfl, rfl, rfl, rfl, rfl, rfl, rfl, rfl, rfl, rfl, rfl⟩
  . exact absurd (show (((spAnsT (.t (frT (o.v 32) (o.v 96) [o.v 64, o.v 65, o.v 66, o.v 67, o.v 68, o.v 69, o.v 70, o.v 71])) (o.v 0).I).length : Nat) : Int) = ((frT (o.v 32) (o.v 96) [o.v 64, o.v 65, o.v 66, o.v 67, o.v 68, o.v 69, o.v 70, o.v 71]).length : Nat) by rw [ans_len]; rfl) (by assumption)
  . rw [t0]; exact ⟨rfl, rfl, by omega, by omega, by omega, by omega⟩
  . rw [t0]; rw [show (((o.v 32).T.length + 1 : Nat) : Int) = ((o.v 32).T.length : Int) + 1 by omega] at F3
    exact ⟨by omega, by omega, F3, ⟨hf5.1, hf5.2.1, hf5.2.2.2.2.1.2⟩, rfl, rfl, rfl, by omega, F2, F1, rfl, rfl, by omega, by omega, by omega, by omega⟩
  . exact absurd (show (((spAnsT (.t (frT (o.v 32) (o.v 96) [o.v 64, o.v 65, o.v 66, o.v 67, o.v 68, o.v 69, o.v 70, o.v 71])) (o.v 0).I).length : Nat) : Int) = ((frT (o.v 32) (o.v 96) [o.v 64, o.v 65, o.v 66, o.v 67, o.v 68, o.v 69, o.v 70, o.v 71]).length : Nat) by rw [ans_len]; rfl) (by assumption)
end
noncomputable def ZF (c : Nat) (d : Dv) : Dv := if c < 200 then objUF c d else if c < 260 then exUF c d else frUF c d
theorem zf_u {o : Env} (h : o.uf = ZF) : OU o := fun c d h1 h2 => by rw [h]; exact if_pos h2
theorem zf_v {o : Env} (h : o.uf = ZF) : OV o := fun c d h1 h2 => by rw [h]; exact (if_neg (by omega)).trans (if_pos (by omega))
theorem zf_f {o : Env} (h : o.uf = ZF) : OF o := fun c d h1 h2 => by rw [h]; exact (if_neg (by omega)).trans (if_neg (by omega))
section
variable {o : Env}
def frLs (m : Nat) : List (Facts × List Ob) := match m with | 0 => fr0L | _ => fr1L
theorem frM {m : Nat} (h : (frY.ok0 m || frY.tgt m) = true) : m = 0 \/ m = 1 := by
  rcases Bool.or_eq_true_iff.1 h with h | h
  . exact .inl (m0_of h)
  . exact .inr (m1_of h)
theorem frY_0 : frY.obl Tryz.prog 0 = some fr0L := by kernel_rfl
theorem frY_1 : frY.obl Tryz.prog 1 = some fr1L := by kernel_rfl
theorem frY_c : CntM Tryz.prog frY (.uf 264 (pk [.v 7612])) frLs := ⟨fun m h => by
    rcases frM h with rfl | rfl
    . exact frY_0
    . exact frY_1, by kernel_rfl, fun m => by rcases m with _ | _ <;> rfl, fun m => by rcases m with _ | _ | _ <;> rfl, by kernel_rfl, rfl, fun m => by rcases m with _ | _ | _ <;> rfl⟩
theorem frY_ok (hf : OF o) : LpOk Tryz.prog o fFresh 10 frY.lpP :=
  frY_c.ok plain mixed (fun e he _ => by simp only [pk, List.foldr, SS, implies_true, (hf.like he).u264]; omega) (fun _ _ _ => extOk_none)
    (fun e i m he h hm hk hr hl => by
      rcases frM hk with rfl | rfl
      . exact fr0_all (hf.like he) hr h hm hl
      . exact fr1_all (hf.like he) hr h hl)
theorem fqY_c : Cnt1 Tryz.prog fqY (lenE (.v 7633)) fqL := ⟨by kernel_rfl, by kernel_rfl, rfl, by kernel_rfl, rfl, fun m h => m0_of h, fun m h => m0_of h, fun _ => rfl⟩
theorem fqY_ok (hu : OU o) (hf : OF o) : LpOk Tryz.prog o fFresh 27 fqY.lpP :=
  fqY_c.ok plain mixed (fun o _ _ => nn_len o) (fun e A he => ctr_ok (c := fqX) (by kernel_rfl) ⟨objsAtF_ok (hu.like he), soF_ok (hu.like he), trivial⟩ trivial A) (fun e i he h hr hl => fq_all (hu.like he) (hf.like he) hr h hl)
end
theorem awake_says : shutB Tryz.prog fAwake 1000 80 true = true := by kernel_rfl
theorem lawF_obl : lawObl Tryz.prog frX.x fFresh frKs 80 = some lawFL := by kernel_rfl
theorem frX_ok {o : Env} (h : o.uf = ZF) (A : Anchor) : ExtOk Tryz.prog o A (frX.x.toExt Tryz.prog) :=
  ctr_ok (c := frX) (by kernel_rfl) ⟨z35F_ok (zf_u h), z5F_ok (zf_u h), exF_ok (zf_u h), smF_ok (zf_u h), objKeyF_ok (zf_u h), shut_ok plain mixed awake_says, trivial⟩ ⟨frY_ok (zf_f h), fqY_ok (zf_u h) (zf_f h), imY_ok (zf_u h) (zf_v h), trivial⟩ A
theorem own : ownKnob Tryz.prog.godebug = none := by kernel_rfl
theorem laid : laidOutB Tryz.prog = true := by kernel_rfl
theorem exf_contract (H : Type) (enc : TypeId × Value -> H) (W : World) (base : Nat) (args : Array Value) (ds gs : List (DataW H)) (before : List MemPlace)
    (hval : ∀ (j : Nat) t v, Tryz.f6.params[j]? = some t -> args[j]? = some v -> Value.okWide Tryz.prog W .any base t v)
    (hW : DataW.Whole enc Tryz.prog Tryz.f6.params.toList Rows.fnExpiringFreshSpec.vars false W args.toList ds gs before) :
    Calls Tryz.prog 6 args W fun e W' => ∃ v, e = .returned v /\ Rows.fnExpiringFreshSpec.post enc Tryz.prog Tryz.f6 false true false false W args v W' :=
  law_contract laid (ks := frKs) (tb := 4) (by kernel_rfl) (by kernel_rfl) (by kernel_rfl) (by kernel_rfl) rfl
    (fun ds hd => by
      match ds, hd with
      | [d, e, f, g], _ => rfl) (fun vs hl hall => law_walk plain mixed (by decide) lawF_obl (fun o A hu => frX_ok hu A) (fun o hu => lawF_all (zf_u hu) (zf_v hu) (zf_f hu)) W vs hl hall) hval hW
theorem exf_lifted (os : Os) (started : os.Started) (H : Type) (enc : TypeId × Value -> H) :
    ReturnsInHanded {} Tryz.checked os 6 .any (Rows.fnExpiringFreshSpec.pre6 enc Tryz.prog Tryz.f6 Rows.fnExpiringFreshRow.domain false) (Rows.fnExpiringFreshSpec.post enc Tryz.prog Tryz.f6 false true false false) := by
  refine returnsInHanded_of_change (C := Tryz.checked) (s := Rows.fnExpiringFreshSpec) own started (by kernel_rfl) Tryz.func6
    (ChangeSpec.witness6 (enc := enc) (C := Tryz.checked) false ⟨#[], #[.int .i64 0, .slice none 0 0, .agg #[.string ⟨#[]⟩, .string ⟨#[]⟩, .string ⟨#[]⟩, .string ⟨#[]⟩, .slice none 0 0, .string ⟨#[]⟩, .bool false, .bool false], .slice none 0 0], []⟩ 8 (by kernel_rfl) (by kernel_rfl) (by kernel_rfl) (by kernel_rfl)) ?_
  intro W base args ds gs before hval hW _ _; exact exf_contract H enc W base args ds gs before hval hW
theorem exfProved : Rows.FnExpiringFreshSaid :=
  OpenClaim.holds_of_wide 6 Tryz.f6 rfl rfl rfl rfl rfl rfl rfl ⟨rfl, rfl, rfl, rfl, rfl⟩ rfl rfl rfl rfl rfl (by kernel_rfl) Tryz.func6 (by kernel_rfl)
    (of_decide_eq_true (by kernel_rfl)) (by unfold Func.isWrapper; first | (rw [if_pos (by decide +kernel)]; kernel_rfl) | (rw [if_neg (by decide +kernel)]; exact ⟨rfl, rfl⟩))
    (fun os started H enc _ => exf_lifted os started H enc)
end Go.Proofs.YtdlppkhmmclipaaGreat.sxObj

