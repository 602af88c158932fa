/-
  SX, PART 7: what a run does hangs on what it reads alone.
-/
import Derived.Test.YtckdphmpafopmaaSxRun
namespace Go.Sx
open Go.RowKit
set_option linter.unusedVariables false
set_option linter.unusedSimpArgs false

theorem evs_congr {ev ev' : Operand → Option SV} : ∀ {l : List Operand}, (∀ x ∈ l, ev x = ev' x) → evs ev l = evs ev' l
  | [], _ => rfl
  | x :: r, h => by simp only [evs, h x (List.mem_cons_self ..), evs_congr (fun y hy => h y (List.mem_cons_of_mem _ hy))]
theorem evp_congr {ev ev' : Operand → Option SV} : ∀ {l : List (Nat × Operand)}, (∀ x ∈ l, ev x.2 = ev' x.2) → evp ev l = evp ev' l
  | [], _ => rfl
  | (i, x) :: r, h => by
    have h1 : ev x = ev' x := h (i, x) (List.mem_cons_self ..)
    simp only [evp, h1, evp_congr (fun y hy => h y (List.mem_cons_of_mem _ hy))]
theorem evo_congr {ev ev' : Operand → Option SV} {o : Option Operand} (h : ∀ x ∈ o, ev x = ev' x) : evo ev o = evo ev' o := by
  cases o with
  | none => rfl
  | some x => simp only [evo, h x rfl]

theorem opS_congr {P : Program} {nm : Nat} {ev ev' : Operand → Option SV} {op : Op} (h : ∀ x ∈ op.operands, ev x = ev' x) : opS P nm ev op = opS P nm ev' op := by
  cases op with
  | move x => simp only [opS, ev1, h x (by simp [Op.operands])]
  | assign x => simp only [opS, ev1, h x (by simp [Op.operands])]
  | pick c a b =>
    have h1 := h c (by simp [Op.operands]); have h2 := h a (by simp [Op.operands]); have h3 := h b (by simp [Op.operands])
    have h4 : ∀ t : Bool, ev (cond t a b) = ev' (cond t a b) := fun t => by cases t <;> assumption
    simp only [opS, ev1, h1, h4]
  | alloc t => rfl
  | box t x => simp only [opS, ev1, h x (by simp [Op.operands])]
  | build t parts => simp only [opS, evp_congr (l := parts.toList) (fun x hx => h x.2 (by simp only [Op.operands]; simp; exact ⟨_, (by simpa using hx : (x.1, x.2) ∈ parts)⟩))]
  | buildSlice t n parts => simp only [opS, evp_congr (l := parts.toList) (fun x hx => h x.2 (by simp only [Op.operands]; simp; exact ⟨_, (by simpa using hx : (x.1, x.2) ∈ parts)⟩))]
  | load t x => simp only [opS, ev1, h x (by simp [Op.operands])]
  | store t a x => simp only [opS, ev1, h a (by simp [Op.operands]), h x (by simp [Op.operands])]
  | nilCheck x => simp only [opS, ev1, h x (by simp [Op.operands])]
  | binOp o t x y yt => simp only [opS, ev1, h x (by simp [Op.operands]), h y (by simp [Op.operands])]
  | unOp o t x => simp only [opS, ev1, h x (by simp [Op.operands])]
  | convert s d x => simp only [opS, ev1, h x (by simp [Op.operands])]
  | makeInterface t x => simp only [opS, ev1, h x (by simp [Op.operands])]
  | makeFunc fn first cap =>
    simp only [opS, evs_congr (l := first.toList) (fun x hx => h x (by simp only [Op.operands]; simp; exact .inl (by simpa using hx))),
      evs_congr (l := cap.toList) (fun x hx => h x (by simp only [Op.operands]; simp; exact .inr (by simpa using hx)))]
  | slice t x lo hi mx =>
    cases mx with
    | some _ => rfl
    | none =>
      simp only [opS, ev1, h x (by simp [Op.operands]), evo_congr (o := lo) (fun y hy => h y (by simp only [Op.operands]; simp; exact .inr (.inl hy))),
        evo_congr (o := hi) (fun y hy => h y (by simp only [Op.operands]; simp; exact .inr (.inr hy)))]
  | fieldAddr t x f => simp only [opS, ev1, h x (by simp [Op.operands])]
  | field t x f => simp only [opS, ev1, h x (by simp [Op.operands])]
  | indexAddr t x i => simp only [opS, ev1, h x (by simp [Op.operands]), h i (by simp [Op.operands])]
  | index t x i => simp only [opS, ev1, h x (by simp [Op.operands]), h i (by simp [Op.operands])]
  | typeAssert x xt t ok => simp only [opS, ev1, h x (by simp [Op.operands])]
  | makeChan t s => simp only [opS, ev1, h s (by simp [Op.operands])]
  | makeMap t r => simp only [opS, evo_congr (o := r) (fun y hy => h y (by subst hy; simp [Op.operands]))]
  | lookup t x i ok => simp only [opS, ev1, h x (by simp [Op.operands]), h i (by simp [Op.operands])]
  | mapUpdate t m k x => simp only [opS, ev1, h m (by simp [Op.operands]), h k (by simp [Op.operands]), h x (by simp [Op.operands])]
  | insert t m k x => simp only [opS, ev1, h m (by simp [Op.operands]), h k (by simp [Op.operands]), h x (by simp [Op.operands])]
  | extract x i => simp only [opS, ev1, h x (by simp [Op.operands])]
  | call c =>
    have ha := evs_congr (ev := ev) (ev' := ev') (l := c.args.toList) (fun x hx => h x (by simp only [Op.operands, Call.operands]; simp; exact .inr (by simpa using hx)))
    simp only [opS, callS, ha]
    cases hc : c.callee with
    | builtin b => rfl
    | invoke r name => simp only [ev1, h r (by simp [Op.operands, Call.operands, hc])]
    | value f => simp only [ev1, h f (by simp [Op.operands, Call.operands, hc])]
  | defer c =>
    have ha := evs_congr (ev := ev) (ev' := ev') (l := c.args.toList) (fun x hx => h x (by simp only [Op.operands, Call.operands]; simp; exact .inr (by simpa using hx)))
    simp only [opS, deferS, ha]
    cases hc : c.callee with
    | builtin b => rfl
    | invoke r name => rfl
    | value f => simp only [ev1, h f (by simp [Op.operands, Call.operands, hc])]
  | _ => rfl

theorem evalS_congr {sl sl2 : List SV} {x : Operand} (h : ∀ t, x = .tmp t → sl2[t]? = sl[t]?) : evalS sl2 x = evalS sl x := by
  cases x <;> simp only [evalS]
  rw [h _ rfl]

theorem looks_op {ops : Array Oper} {o : Oper} {sl sl2 : List SV} (h : ∀ d ∈ o.looksAt ops, sl2[d]? = sl[d]?) : ∀ x ∈ o.op.operands, evalS sl2 x = evalS sl x := by
  intro x hx
  refine evalS_congr (fun t ht => h t ?_)
  unfold Oper.looksAt
  refine List.mem_append_left _ (List.mem_filterMap.2 ⟨x, by simpa using hx, ?_⟩)
  subst ht; rfl

theorem looks_guard {env : Env} {ops : Array Oper} {o : Oper} {sl sl2 : List SV} (h : ∀ d ∈ o.looksAt ops, sl2[d]? = sl[d]?) : swant env ops sl2 o = swant env ops sl o := by
  unfold swant
  cases hg : o.guard with
  | none => rfl
  | some q =>
    obtain ⟨j, want⟩ := q
    simp only
    cases hd : (ops[j]?).bind (·.dst) with
    | none => rfl
    | some d =>
      simp only
      rw [h d (by unfold Oper.looksAt; refine List.mem_append_right _ ?_; rw [hg]; simp [hd])]

def Keeps (h h' : Heap) (F : Foot) : Prop := ∀ n, n ∉ F.wr → h' n = h n
def Moved (t t' h' : Heap) (F : Foot) : Prop := ∀ n, t' n = if n ∈ F.wr then h' n else t n

def Loc (P : Program) (env : Env) (X : Ext) : Judg → Prop
  | .op ops base i fr h nx fr' h' nx' cl F => Keeps h h' F ∧ ∃ o x, ops[i]? = some o ∧ fr'.sl = putS fr.sl o.dst x ∧ (cl = false → nx' = nx ∧ fr'.df = fr.df) ∧
      ∀ sl2 df2 t nx2, (∀ d ∈ o.looksAt ops, sl2[d]? = fr.sl[d]?) → (∀ n ∈ F.rd, t n = h n) → (cl = true → nx2 = nx ∧ df2 = fr.df) →
        ∃ t', Ev P env X (.op ops base i ⟨sl2, df2⟩ t nx2 ⟨putS sl2 o.dst x, if cl then fr'.df else df2⟩ t' (if cl then nx' else nx2) cl F) ∧ Moved t t' h' F
  | .code c fr h nx ex fr' h' nx' F => Keeps h h' F ∧ ∀ t, (∀ n ∈ F.rd, t n = h n) → ∃ t', Ev P env X (.code c fr t nx ex fr' t' nx' F) ∧ Moved t t' h' F
  | .loop c fr h nx ex fr' h' nx' F => Keeps h h' F ∧ ∀ t, (∀ n ∈ F.rd, t n = h n) → ∃ t', Ev P env X (.loop c fr t nx ex fr' t' nx' F) ∧ Moved t t' h' F
  | .defs ds h nx h' nx' F => Keeps h h' F ∧ ∀ t, (∀ n ∈ F.rd, t n = h n) → ∃ t', Ev P env X (.defs ds t nx t' nx' F) ∧ Moved t t' h' F
  | .fn dfr f args h nx r h' nx' F => Keeps h h' F ∧ ∀ t, (∀ n ∈ F.rd, t n = h n) → ∃ t', Ev P env X (.fn dfr f args t nx r t' nx' F) ∧ Moved t t' h' F

theorem Keeps.trans {a b c : Heap} {F G : Foot} (h : Keeps a b F) (k : Keeps b c G) : Keeps a c (F.add G) := fun n hn => by
  simp only [Foot.add, List.mem_append, not_or] at hn
  rw [k n hn.2, h n hn.1]
theorem Moved.trans {t t1 t2 b c : Heap} {F G : Foot} (m1 : Moved t t1 b F) (m2 : Moved t1 t2 c G) (k : Keeps b c G) : Moved t t2 c (F.add G) := fun n => by
  rw [m2 n, m1 n]
  simp only [Foot.add, List.mem_append]
  by_cases h1 : n ∈ G.wr
  · simp [h1]
  · by_cases h2 : n ∈ F.wr
    · simp only [h1, h2, if_true, if_false, or_false, true_or]; rw [k n h1]
    · simp [h1, h2]
/-- What the second part reads is as it was, where the first part went alike. -/
theorem Moved.reads {t t1 a b : Heap} {F G : Foot} (m : Moved t t1 b F) (k : Keeps a b F) (hr : ∀ n ∈ (F.add G).rd, t n = a n) : ∀ n ∈ G.rd, t1 n = b n := fun n hn => by
  rw [m n]
  by_cases h1 : n ∈ F.wr
  · simp [h1]
  · rw [if_neg h1, hr n (by simp [Foot.add, hn]), k n h1]

theorem prog_loc {α : Type} {env : Env} {p : Prog α} {h h' : Heap} {a : α} {F : Foot} (he : p.Ev env h a h' Foot.nil F) :
    Keeps h h' F ∧ ∀ t, (∀ n ∈ F.rd, t n = h n) → ∃ t', p.Ev env t a t' Foot.nil F ∧ Moved t t' h' F := by
  obtain ⟨R, W, e, hw, hl⟩ := he.local
  simp only [Foot.nil, List.append_nil] at e
  subst e
  refine ⟨hw, fun t ht => ?_⟩
  obtain ⟨t', h1, h2⟩ := hl t Foot.nil ht
  exact ⟨t', by simpa [Foot.nil] using h1, h2⟩

theorem Ev.loc {P : Program} {env : Env} {X : Ext} {j : Judg} (he : Ev P env X j) : Loc P env X j := by
  induction he with
  | opSkip ho hw =>
    refine ⟨fun n _ => rfl, _, _, ho, rfl, fun _ => ⟨rfl, rfl⟩, fun sl2 df2 t nx2 h1 h2 h3 => ⟨t, ?_, fun n => by simp [Foot.nil]⟩⟩
    exact .opSkip (fr := ⟨sl2, df2⟩) ho (by rw [looks_guard h1]; exact hw)
  | opVal ho hw he =>
    obtain ⟨k, hl⟩ := prog_loc he
    refine ⟨k, _, _, ho, rfl, fun _ => ⟨rfl, rfl⟩, fun sl2 df2 t nx2 h1 h2 h3 => ?_⟩
    obtain ⟨t', g1, g2⟩ := hl t h2
    exact ⟨t', .opVal (fr := ⟨sl2, df2⟩) ho (by rw [looks_guard h1]; exact hw) (by rw [opS_congr (looks_op h1)]; exact g1), g2⟩
  | opNone ho hw he =>
    obtain ⟨k, hl⟩ := prog_loc he
    refine ⟨k, _, _, ho, rfl, fun _ => ⟨rfl, rfl⟩, fun sl2 df2 t nx2 h1 h2 h3 => ?_⟩
    obtain ⟨t', g1, g2⟩ := hl t h2
    exact ⟨t', .opNone (fr := ⟨sl2, df2⟩) ho (by rw [looks_guard h1]; exact hw) (by rw [opS_congr (looks_op h1)]; exact g1), g2⟩
  | opDefer ho hw he =>
    obtain ⟨k, hl⟩ := prog_loc he
    refine ⟨k, _, _, ho, rfl, fun h => (by cases h), fun sl2 df2 t nx2 h1 h2 h3 => ?_⟩
    obtain ⟨t', g1, g2⟩ := hl t h2
    obtain ⟨rfl, rfl⟩ := h3 rfl
    exact ⟨t', .opDefer (fr := ⟨sl2, _⟩) ho (by rw [looks_guard h1]; exact hw) (by rw [opS_congr (looks_op h1)]; exact g1), g2⟩
  | opCall ho hw he hf ih =>
    obtain ⟨k1, hl1⟩ := prog_loc he
    obtain ⟨k2, hl2⟩ := ih
    refine ⟨k1.trans k2, _, _, ho, rfl, fun h => (by cases h), fun sl2 df2 t nx2 h1 h2 h3 => ?_⟩
    obtain ⟨t1, g1, g2⟩ := hl1 t (fun n hn => h2 n (by simp [Foot.add, hn]))
    obtain ⟨t2, g3, g4⟩ := hl2 t1 (g2.reads k1 h2)
    obtain ⟨rfl, rfl⟩ := h3 rfl
    exact ⟨t2, .opCall (fr := ⟨sl2, _⟩) ho (by rw [looks_guard h1]; exact hw) (by rw [opS_congr (looks_op h1)]; exact g1) g3, g2.trans g4 k2⟩
  | skip => exact ⟨fun n _ => rfl, fun t _ => ⟨t, .skip, fun n => by simp [Foot.nil]⟩⟩
  | label => exact ⟨fun n _ => rfl, fun t _ => ⟨t, .label, fun n => by simp [Foot.nil]⟩⟩
  | ret => exact ⟨fun n _ => rfl, fun t _ => ⟨t, .ret, fun n => by simp [Foot.nil]⟩⟩
  | exit => exact ⟨fun n _ => rfl, fun t _ => ⟨t, .exit, fun n => by simp [Foot.nil]⟩⟩
  | seqN h1 h2 ih1 ih2 =>
    obtain ⟨k1, hl1⟩ := ih1
    obtain ⟨k2, hl2⟩ := ih2
    refine ⟨k1.trans k2, fun t ht => ?_⟩
    obtain ⟨t1, g1, g2⟩ := hl1 t (fun n hn => ht n (by simp [Foot.add, hn]))
    obtain ⟨t2, g3, g4⟩ := hl2 t1 (g2.reads k1 ht)
    exact ⟨t2, .seqN g1 g3, g2.trans g4 k2⟩
  | seqX hne h1 ih1 =>
    obtain ⟨k1, hl1⟩ := ih1
    exact ⟨k1, fun t ht => let ⟨t1, g1, g2⟩ := hl1 t ht; ⟨t1, .seqX hne g1, g2⟩⟩
  | cond hc h1 ih1 =>
    obtain ⟨k1, hl1⟩ := ih1
    exact ⟨k1, fun t ht => let ⟨t1, g1, g2⟩ := hl1 t ht; ⟨t1, .cond hc g1, g2⟩⟩
  | blockX h1 ih1 =>
    obtain ⟨k1, hl1⟩ := ih1
    exact ⟨k1, fun t ht => let ⟨t1, g1, g2⟩ := hl1 t ht; ⟨t1, .blockX g1, g2⟩⟩
  | block hne h1 ih1 =>
    obtain ⟨k1, hl1⟩ := ih1
    exact ⟨k1, fun t ht => let ⟨t1, g1, g2⟩ := hl1 t ht; ⟨t1, .block hne g1, g2⟩⟩
  | loop h1 ih1 =>
    obtain ⟨k1, hl1⟩ := ih1
    exact ⟨k1, fun t ht => let ⟨t1, g1, g2⟩ := hl1 t ht; ⟨t1, .loop g1, g2⟩⟩
  | loopN h1 h2 ih1 ih2 =>
    obtain ⟨k1, hl1⟩ := ih1
    obtain ⟨k2, hl2⟩ := ih2
    refine ⟨k1.trans k2, fun t ht => ?_⟩
    obtain ⟨t1, g1, g2⟩ := hl1 t (fun n hn => ht n (by simp [Foot.add, hn]))
    obtain ⟨t2, g3, g4⟩ := hl2 t1 (g2.reads k1 ht)
    exact ⟨t2, .loopN g1 g3, g2.trans g4 k2⟩
  | loopX hne h1 ih1 =>
    obtain ⟨k1, hl1⟩ := ih1
    exact ⟨k1, fun t ht => let ⟨t1, g1, g2⟩ := hl1 t ht; ⟨t1, .loopX hne g1, g2⟩⟩
  | @region id ops draw h nx L D S H N F cl hL hDL h0 hN hop hdraw ih =>
    -- which names were written ahead of i
    have upto : ∀ i, i ≤ ops.size → ∀ n, (∀ j, j < i → n ∉ (F j).wr) → H i n = H 0 n := by
      intro i
      induction i with
      | zero => intro _ n _; rfl
      | succ i ihi =>
        intro hi n hn
        have hk : Keeps (H i) (H (i + 1)) (F i) := by
          have := ih i (by omega)
          exact this.1
        rw [hk n (hn i (by omega))]
        exact ihi (by omega) n (fun j hj => hn j (by omega))
    have sumwr : ∀ n, n ∈ (Foot.sum F ops.size).wr ↔ ∃ j, j < ops.size ∧ n ∈ (F j).wr := fun n => by simp [Foot.sum]
    have sumrd : ∀ n, n ∈ (Foot.sum F ops.size).rd ↔ ∃ j, j < ops.size ∧ n ∈ (F j).rd := fun n => by simp [Foot.sum]
    have hkeep : Keeps h (dropL (H ops.size) D) ⟨(Foot.sum F ops.size).rd, (Foot.sum F ops.size).wr ++ L⟩ := by
      intro n hn
      simp only [List.mem_append, not_or, sumwr, not_exists, not_and] at hn
      unfold dropL
      rw [if_neg (fun hc => hn.2 (hDL n hc)), upto ops.size (Nat.le_refl _) n (fun j hj => hn.1 j hj), h0]
      unfold reserve
      rw [if_neg hn.2]
    refine ⟨hkeep, fun t ht => ?_⟩
    -- the run over the other heap
    let H' : Nat → Heap := fun i n => if ∃ j, j < i ∧ n ∈ (F j).wr then H i n else reserve t L n
    have hH'0 : H' 0 = reserve t L := by funext n; simp [H']
    have hstep : ∀ i, i < ops.size → Ev P env X (.op ops nx i (S i) (H' i) (N i) (S (i + 1)) (H' (i + 1)) (N (i + 1)) (cl i) (F i)) := by
      intro i hi
      obtain ⟨hk, o, x, ho, hsl, hcl, hl⟩ := ih i hi
      have hrd : ∀ n ∈ (F i).rd, H' i n = H i n := by
        intro n hn
        simp only [H']
        split
        · rfl
        · rename_i hno
          rw [upto i (by omega) n (fun j hj hw => hno ⟨j, hj, hw⟩), h0]
          unfold reserve
          by_cases hnL : n ∈ L
          · simp [hnL]
          · rw [if_neg hnL, if_neg hnL]
            exact ht n ((sumrd n).2 ⟨i, hi, hn⟩)
      obtain ⟨t', g1, g2⟩ := hl (S i).sl (S i).df (H' i) (N i) (fun d _ => rfl) hrd (fun _ => ⟨rfl, rfl⟩)
      have e1 : (⟨putS (S i).sl o.dst x, if cl i then (S (i + 1)).df else (S i).df⟩ : Fr) = S (i + 1) := by
        rw [← hsl]
        cases hc : cl i with
        | true => simp
        | false => simp only [Bool.false_eq_true, if_false]; rw [← (hcl hc).2]
      have e2 : (if cl i then N (i + 1) else N i) = N (i + 1) := by
        cases hc : cl i with
        | true => simp
        | false => simp only [Bool.false_eq_true, if_false]; exact (hcl hc).1.symm
      have e3 : t' = H' (i + 1) := by
        funext n
        rw [g2 n]
        simp only [H']
        by_cases h1 : n ∈ (F i).wr
        · rw [if_pos h1, if_pos ⟨i, by omega, h1⟩]
        · rw [if_neg h1]
          by_cases h2 : ∃ j, j < i ∧ n ∈ (F j).wr
          · obtain ⟨j, hj, hw⟩ := h2
            rw [if_pos ⟨j, hj, hw⟩, if_pos ⟨j, by omega, hw⟩, hk n h1]
          · rw [if_neg h2, if_neg (fun ⟨j, hj, hw⟩ => by
              by_cases hji : j = i
              · subst hji; exact h1 hw
              · exact h2 ⟨j, by omega, hw⟩)]
      rw [e1, e2, e3] at g1
      exact g1
    refine ⟨dropL (H' ops.size) D, .region S H' N F cl hL hDL hH'0 hN hstep hdraw, fun n => ?_⟩
    simp only [List.mem_append, sumwr]
    unfold dropL
    by_cases hd : n ∈ D
    · have hnl := hDL n hd
      simp only [hd, if_true, hnl, or_true]
    · simp only [hd, if_false]
      by_cases h1 : ∃ j, j < ops.size ∧ n ∈ (F j).wr
      · simp only [h1, true_or, if_true]
        simp only [H', h1, if_true]
      · simp only [h1, false_or]
        by_cases h2 : n ∈ L
        · simp only [h2, if_true]
          have e1 : H ops.size n = some .resv := by
            rw [upto ops.size (Nat.le_refl _) n (fun j hj hw => h1 ⟨j, hj, hw⟩), h0]; unfold reserve; simp [h2]
          simp only [H', h1, if_false, reserve, h2, if_true, e1]
        · simp only [h2, if_false]
          simp only [H', h1, if_false, reserve, h2]
  | defN => exact ⟨fun n _ => rfl, fun t _ => ⟨t, .defN, fun n => by simp [Foot.nil]⟩⟩
  | defC h1 h2 ih1 ih2 =>
    obtain ⟨k1, hl1⟩ := ih1
    obtain ⟨k2, hl2⟩ := ih2
    refine ⟨k1.trans k2, fun t ht => ?_⟩
    obtain ⟨t1, g1, g2⟩ := hl1 t (fun n hn => ht n (by simp [Foot.add, hn]))
    obtain ⟨t2, g3, g4⟩ := hl2 t1 (g2.reads k1 ht)
    exact ⟨t2, .defC g1 g3, g2.trans g4 k2⟩
  | @fn dfr f args h nx fn c ex fr1 h1' nx1 F1 h2' nx2 F2 r F3 D F hf hb hn h1 hex hdf h2 h3 h4 hD hF ih1 ih2 =>
    obtain ⟨k1, hl1⟩ := ih1
    obtain ⟨k2, hl2⟩ := ih2
    obtain ⟨k3, hl3⟩ := prog_loc h3
    refine ⟨fun n hn => by
      unfold dropL
      rw [if_neg (fun hc => hn (hD n hc))]
      exact ((k1.trans k2).trans k3) n (fun hc => hn ((hF.2 n).2 hc)), fun t ht => ?_⟩
    have ht := fun n hn => ht n (hF.1 n hn)
    obtain ⟨t1, g1, g2⟩ := hl1 t (fun n hn => ht n (by simp [Foot.add, hn]))
    obtain ⟨t2, g3, g4⟩ := hl2 t1 (g2.reads k1 (fun n hn => ht n (by simp only [Foot.add, List.mem_append] at hn ⊢; exact .inl hn)))
    have m12 := g2.trans g4 k2
    obtain ⟨t3, g5, g6⟩ := hl3 t2 (m12.reads (k1.trans k2) ht)
    have e : t3 = t2 := by funext n; rw [g6 n, h4]; simp
    subst e
    refine ⟨_, .fn hf hb hn g1 hex hdf g3 g5 h4 hD hF, fun n => ?_⟩
    have hm := m12.trans g6 k3 n
    by_cases hw : n ∈ F.wr
    · rw [if_pos hw]
      rw [if_pos ((hF.2 n).1 hw)] at hm
      unfold dropL
      by_cases hd : n ∈ D
      · rw [if_pos hd, if_pos hd]
      · rw [if_neg hd, if_neg hd]; exact hm
    · rw [if_neg hw]
      rw [if_neg (fun h => hw ((hF.2 n).2 h))] at hm
      unfold dropL
      rw [if_neg (fun hd => hw (hD n hd))]
      exact hm
  | ext hx he =>
    obtain ⟨k, hl⟩ := prog_loc he
    exact ⟨k, fun t ht => let ⟨t', g1, g2⟩ := hl t ht; ⟨t', .ext hx g1, g2⟩⟩
  | extL hx he =>
    obtain ⟨k, hl⟩ := prog_loc he
    exact ⟨k, fun t ht => let ⟨t', g1, g2⟩ := hl t ht; ⟨t', .extL hx g1, g2⟩⟩

end Go.Sx
