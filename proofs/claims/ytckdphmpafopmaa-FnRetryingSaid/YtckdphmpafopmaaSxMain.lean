/-
  SX, PART 11: the theorem: what a symbolic run says of a call, the model does.
-/
import Derived.Test.YtckdphmpafopmaaSxSound
namespace Go.Sx
open Go.RowKit
set_option linter.unusedVariables false
set_option linter.unusedSimpArgs false

section
variable {P : Program} {env : Env} {w0 : Anchor} {X : Ext}

theorem HSat.reserve {ρ : PMap} {h : Heap} {w : World} (H : HSat env w0 ρ h w) {L : List Nat} (hL : ∀ m ∈ L, ρ m = none) : HSat env w0 ρ (Sx.reserve h L) w := by
  have sub : ∀ n o, hget (Sx.reserve h L) n = some o → o.owner = true → hget h n = some o := fun n o hn ho => by
    have hn' : (if n ∈ L then some SObj.resv else h n) = some o := hn
    by_cases e : n ∈ L
    · rw [if_pos e] at hn'; injection hn' with hn'; subst hn'; cases ho
    · rw [if_neg e] at hn'; exact hn'
  have habs : ∃ μ, AbsAll env w0 ρ (Sx.reserve h L) w μ := by
    obtain ⟨μ, hA⟩ := H.abs
    exact ⟨μ, hA.keep (PMap.le_refl ρ) (fun m k st refs hm => sub m _ hm rfl) (fun _ _ _ _ _ _ _ _ _ => rfl) (Nat.le_refl _) (fun _ h => h) (fun m x q' hm hx hq' => .inl ⟨m, x, q', sub m x hm hx, hx, hq', rfl⟩)⟩
  refine ⟨H.below, fun n o hn => ?_, fun m n o o' p q hm hn ho ho' hp hq he => ?_, habs, H.fz.keep rfl (fun _ _ _ h => h) (fun m x q' hm hx hq' => .inl ⟨m, x, q', sub m x hm hx, hx, hq', rfl⟩)⟩
  · have hn' : (if n ∈ L then some SObj.resv else h n) = some o := hn
    by_cases e : n ∈ L
    · rw [if_pos e] at hn'; injection hn' with hn'; subst hn'; exact hL n e
    · rw [if_neg e] at hn'; exact H.objs n o hn'
  · have hm' : (if m ∈ L then some SObj.resv else h m) = some o := hm
    have hn' : (if n ∈ L then some SObj.resv else h n) = some o' := hn
    by_cases e : m ∈ L
    · rw [if_pos e] at hm'; injection hm' with hm'; subst hm'; cases ho
    · by_cases e2 : n ∈ L
      · rw [if_pos e2] at hn'; injection hn' with hn'; subst hn'; cases ho'
      · rw [if_neg e] at hm'; rw [if_neg e2] at hn'
        exact H.inj m n o o' p q hm' hn' ho ho' hp hq he

theorem HSat.sub {ρ : PMap} {h h' : Heap} {w : World} (H : HSat env w0 ρ h w) (hs : ∀ n o, hget h' n = some o → hget h n = some o) : HSat env w0 ρ h' w :=
  ⟨H.below, fun n o hn => H.objs n o (hs n o hn), fun m n o o' p q hm hn => H.inj m n o o' p q (hs m o hm) (hs n o' hn), by
    obtain ⟨μ, hA⟩ := H.abs
    exact ⟨μ, hA.keep (PMap.le_refl ρ) (fun m k st refs hm => hs m _ hm) (fun _ _ _ _ _ _ _ _ _ => rfl) (Nat.le_refl _) (fun _ h => h) (fun m x q' hm hx hq' => .inl ⟨m, x, q', hs m x hm, hx, hq', rfl⟩)⟩, H.fz.keep rfl (fun _ _ _ h => h) (fun m x q' hm hx hq' => .inl ⟨m, x, q', hs m x hm, hx, hq', rfl⟩)⟩

theorem drop_sub {h : Heap} {D : List Nat} : ∀ n o, hget (dropL h D) n = some o → hget h n = some o := fun n o hn => by
  have hn' : (if n ∈ D then none else h n) = some o := hn
  split at hn'
  · cases hn'
  · exact hn'

theorem repl_undef {ρ : PMap} : ∀ n, SV.Rels env ρ (repl n sundef) (List.replicate n undef)
  | 0 => rfl
  | n + 1 => by simp only [repl, List.replicate_succ]; exact ⟨undef, _, rfl, undef_rel, repl_undef n⟩

theorem DRel.nil_eq {ρ : PMap} {d : List Deferred} (h : DRel env ρ [] d) : d = [] := by cases h; rfl

/-- Everything that a run says is so in the model. -/
theorem Ev.sound (hP : Plain P) (hM : P.follows .mixedOrders = true) (hX : ExtOk P env w0 X) {j : Judg} (he : Ev P env X j) : Sound P env w0 j := by
  induction he with
  | @opSkip ops base i fr h nx o ho hw =>
    refine ⟨o, sundef, ho, rfl, fun _ => ⟨rfl, rfl⟩, Nat.le_refl _, fun sl2 df2 t nx2 h1 h2 h3 h4 ρ a w K Q hs hK => ?_⟩
    have hwant : Region.wanted o (yielded ops a.tmps) = false := swant_ok hs.sl (by rw [looks_guard h1]; exact hw)
    unfold wpOp
    simp only [ho, hwant, Bool.false_eq_true, if_false]
    refine hK ρ _ w (PMap.le_refl ρ) ⟨?_, rels_put hs.sl undef_rel, by rw [put_defers]; exact hs.df, hs.nx⟩
    exact hs.hs.ext (fun k => by simp [mv, Foot.nil, hget])
  | opVal ho hw he => exact op_now hP ho hw he (fun _ => rfl) (fun ρ n ho => by obtain ⟨v, rfl, hv⟩ := ho; exact ⟨v, hv, .inl ⟨rfl, rfl⟩⟩)
  | opNone ho hw he => exact op_now hP ho hw he (fun _ => rfl) (fun ρ n ho => by obtain rfl := ho; exact ⟨undef, undef_rel, .inr (.inl ⟨rfl, rfl, rfl⟩)⟩)
  | opDefer ho hw he =>
    exact op_now hP ho hw he (fun h => by cases h) (fun ρ n ho => by
      obtain ⟨cs, vs, rfl, h1, h2⟩ := ho
      exact ⟨undef, undef_rel, .inr (.inr ⟨_, _, _, rfl, rfl, rfl, rfl, fun ds r hr => .cons (h2.append h1) hr⟩)⟩)
  | @opCall ops base i fr h nx o f args h1 F1 r h' nx' F2 ho hw hp hf ih =>
    obtain ⟨hle, hcall⟩ := ih
    have hkf := (hf.loc).1
    refine ⟨o, r, ho, rfl, fun h => (by cases h), hle, fun sl2 df2 t nx2 a1 a2 a3 a4 ρ a w K Q hs hK => ?_⟩
    obtain ⟨rfl, rfl⟩ := a3 rfl
    obtain ⟨k, hl⟩ := prog_loc hp
    obtain ⟨t', g1, g2⟩ := hl t (fun n hn => a2 n (by simp [Foot.add, hn]))
    have hrun : (opS P (base + i) (evalS sl2) o.op).Run env t (.call f args) t' := by
      have := g1.run
      rw [← opS_congr (looks_op a1)] at this
      exact this
    obtain ⟨n, w', ρ', r1, r2, r3, r4, vs, rfl, hvs⟩ := opS_ok hP hs.hs hs.sl (o := o) hrun
    have hwant : Region.wanted o (yielded ops a.tmps) = true := swant_ok hs.sl (by rw [looks_guard a1]; exact hw)
    have hnx : ∀ m p, ρ' m = some p → m < nx2 := by
      intro m p hm
      cases hρ : ρ m with
      | some q => exact hs.nx m q hρ
      | none =>
        rcases r3 m hρ with e | e
        · rw [e] at hm; cases hm
        · omega
    obtain ⟨hc, _⟩ := hcall t' (g2.reads k a2) ρ' w' vs r4 hnx hvs
    unfold wpOp
    simp only [ho, hwant, if_true]
    refine .inl ?_
    unfold Oper.wp
    rw [r1, Oper.upon_enter]
    refine hc.mono fun e w'' hpost => ?_
    obtain ⟨ρ'', v, rfl, b1, b2, b3, b4⟩ := hpost
    have hl2 := PMap.le_trans r2 b1
    refine hK ρ'' _ w'' hl2 ⟨?_, rels_put (hs.sl.mono hl2) b4, ?_, ?_⟩
    · rw [mv_of g2] at b2
      rw [mv_trans hkf] at b2
      exact b2
    · rw [put_defers]; simp only [if_true]; exact hs.df.mono hl2
    · simp only [if_true]; exact b3
  | skip => exact ⟨Nat.le_refl _, fun t ht ρ a w Q hs hq => wp_skip (hq ρ a w (PMap.le_refl ρ) ⟨hs.hs.ext (fun k => by simp [mv, Foot.nil, hget]), hs.sl, hs.df, hs.nx⟩)⟩
  | label => exact ⟨Nat.le_refl _, fun t ht ρ a w Q hs hq => wp_label (hq ρ a w (PMap.le_refl ρ) ⟨hs.hs.ext (fun k => by simp [mv, Foot.nil, hget]), hs.sl, hs.df, hs.nx⟩)⟩
  | ret => exact ⟨Nat.le_refl _, fun t ht ρ a w Q hs hq => wp_ret (hq ρ a w (PMap.le_refl ρ) ⟨hs.hs.ext (fun k => by simp [mv, Foot.nil, hget]), hs.sl, hs.df, hs.nx⟩)⟩
  | exit => exact ⟨Nat.le_refl _, fun t ht ρ a w Q hs hq => wp_exit (hq ρ a w (PMap.le_refl ρ) ⟨hs.hs.ext (fun k => by simp [mv, Foot.nil, hget]), hs.sl, hs.df, hs.nx⟩)⟩
  | seqN h1 h2 ih1 ih2 =>
    obtain ⟨l1, s1⟩ := ih1
    obtain ⟨l2, s2⟩ := ih2
    have k1 := (h1.loc).1
    have k2 := (h2.loc).1
    refine ⟨Nat.le_trans l1 l2, fun t ht ρ a w Q hs hq => wp_seq (s1 t (fun n hn => ht n (by simp [Foot.add, hn])) ρ a w _ hs fun ρ' a' w' hl hs' => ?_)⟩
    refine s2 _ ((moved_mv t _ _).reads k1 ht) ρ' a' w' Q hs' fun ρ'' a'' w'' hl2 hs'' => ?_
    rw [mv_trans k2] at hs''
    exact hq ρ'' a'' w'' (PMap.le_trans hl hl2) hs''
  | @seqX a b fr h nx fr1 h1 nx1 F1 ex hne h1' ih1 =>
    obtain ⟨l1, s1⟩ := ih1
    refine ⟨l1, fun t ht ρ a w Q hs hq => wp_seq (s1 t ht ρ a w _ hs fun ρ' a' w' hl hs' => ?_)⟩
    cases ex with
    | normal => exact absurd rfl hne
    | exit n => exact hq ρ' a' w' hl hs'
    | ret => exact hq ρ' a' w' hl hs'
  | @cond c a b fr h nx e ex fr1 h1 nx1 F1 hc h1' ih1 =>
    obtain ⟨l1, s1⟩ := ih1
    refine ⟨l1, fun t ht ρ ac w Q hs hq => ?_⟩
    have hv := evalS_ok (a := ac) hs.sl hc
    simp only [SV.Rel] at hv
    exact wp_cond hv (s1 t ht ρ ac w Q hs hq)
  | @blockX id a fr h nx fr1 h1 nx1 F1 h1' ih1 =>
    obtain ⟨l1, s1⟩ := ih1
    refine ⟨l1, fun t ht ρ ac w Q hs hq => wp_block (s1 t ht ρ ac w _ hs fun ρ' a' w' hl hs' => ?_)⟩
    show (if id = id then Q .normal a' w' else Q (.exit id) a' w')
    rw [if_pos rfl]
    exact hq ρ' a' w' hl hs'
  | @block id a fr h nx ex fr1 h1 nx1 F1 hne h1' ih1 =>
    obtain ⟨l1, s1⟩ := ih1
    refine ⟨l1, fun t ht ρ ac w Q hs hq => wp_block (s1 t ht ρ ac w _ hs fun ρ' a' w' hl hs' => ?_)⟩
    cases ex with
    | normal => exact hq ρ' a' w' hl hs'
    | exit n =>
      show (if n = id then Q .normal a' w' else Q (.exit n) a' w')
      rw [if_neg (fun e => hne (by rw [e]))]
      exact hq ρ' a' w' hl hs'
    | ret => exact hq ρ' a' w' hl hs'
  | loop h1 ih1 =>
    obtain ⟨l1, k, s1⟩ := ih1
    exact ⟨l1, fun t ht ρ a w Q hs hq => wp_loop_rounds k (s1 t ht ρ a w Q hs hq)⟩
  | loopN h1 h2 ih1 ih2 =>
    obtain ⟨l1, s1⟩ := ih1
    obtain ⟨l2, k, s2⟩ := ih2
    have k1 := (h1.loc).1
    have k2 := (h2.loc).1
    refine ⟨Nat.le_trans l1 l2, k + 1, fun t ht ρ a w Q hs hq => ?_⟩
    rw [rounds_succ]
    refine s1 t (fun n hn => ht n (by simp [Foot.add, hn])) ρ a w _ hs fun ρ' a' w' hl hs' => ?_
    refine s2 _ ((moved_mv t _ _).reads k1 ht) ρ' a' w' Q hs' fun ρ'' a'' w'' hl2 hs'' => ?_
    rw [mv_trans k2] at hs''
    exact hq ρ'' a'' w'' (PMap.le_trans hl hl2) hs''
  | @loopX c fr h nx ex fr1 h1 nx1 F1 hne h1' ih1 =>
    obtain ⟨l1, s1⟩ := ih1
    refine ⟨l1, 1, fun t ht ρ ac w Q hs hq => ?_⟩
    rw [rounds_succ]
    refine s1 t ht ρ ac w _ hs fun ρ' a' w' hl hs' => ?_
    cases ex with
    | normal => exact absurd rfl hne
    | exit n => exact hq ρ' a' w' hl hs'
    | ret => exact hq ρ' a' w' hl hs'
  | @region id ops draw h nx L D S H N F cl hL hDL h0 hN hop hdraw ih =>
    have hkeeps : ∀ i, i < ops.size → Keeps (H i) (H (i + 1)) (F i) := fun i hi => ((hop i hi).loc).1
    have upto : ∀ i, i ≤ ops.size → ∀ n, (∀ j, j < i → n ∉ (F j).wr) → H i n = H 0 n := by
      intro i
      induction i with
      | zero => intro _ n _; rfl
      | succ i ihi =>
        intro hi n hn
        rw [hkeeps i (by omega) n (hn i (by omega))]
        exact ihi (by omega) n (fun j hj => hn j (by omega))
    have sumwr : ∀ n, n ∈ (Foot.sum F ops.size).wr ↔ ∃ j, j < ops.size ∧ n ∈ (F j).wr := fun n => by simp [Foot.sum]
    have sumrd : ∀ n, n ∈ (Foot.sum F ops.size).rd ↔ ∃ j, j < ops.size ∧ n ∈ (F j).rd := fun n => by simp [Foot.sum]
    have mono : ∀ i, i ≤ ops.size → N 0 ≤ N i := by
      intro i
      induction i with
      | zero => intro _; exact Nat.le_refl _
      | succ i ihi =>
        intro hi
        obtain ⟨o, x, _, _, _, hle, _⟩ := ih i (by omega)
        exact Nat.le_trans (ihi (by omega)) hle
    refine ⟨by have := mono ops.size (Nat.le_refl _); omega, fun t ht ρ a w Q hs hq => ?_⟩
    let H' : Nat → Heap := fun i n => if ∃ j, j < i ∧ n ∈ (F j).wr then H i n else reserve t L n
    have hH'0 : H' 0 = reserve t L := by funext n; simp [H']
    have hC : Chain P env w0 ops nx S H' N F cl := by
      refine ⟨fun i hi => ?_, fun i hi => ?_, by omega⟩
      · obtain ⟨o, x, ho, hsl, hcl, hle, hokk⟩ := ih i hi
        refine ⟨o, x, ho, hsl, hcl, hle, fun sl2 df2 t2 nx2 b1 b2 b3 b4 ρ2 a2 w2 K2 Q2 hs2 hK2 => ?_⟩
        have hrd : ∀ n ∈ (F i).rd, H' i n = H i n := by
          intro n hn
          simp only [H']
          split
          · rfl
          · rename_i hno
            rw [upto i (by omega) n (fun j hj hw => hno ⟨j, hj, hw⟩), h0]
            unfold reserve
            by_cases hnL : n ∈ L
            · simp [hnL]
            · rw [if_neg hnL, if_neg hnL]
              exact ht n ((List.mem_append.2 (.inl ((sumrd n).2 ⟨i, hi, hn⟩)) : n ∈ (Foot.sum F ops.size).rd ++ []) |> (by simpa using ·))
        refine hokk sl2 df2 t2 nx2 b1 (fun n hn => by rw [b2 n hn, hrd n hn]) b3 b4 ρ2 a2 w2 K2 Q2 hs2 (fun ρ' a' w' hl hs' => hK2 ρ' a' w' hl ?_)
        have e : mv t2 (H (i + 1)) (F i) = mv t2 (H' (i + 1)) (F i) := by
          funext n
          unfold mv
          by_cases h1 : n ∈ (F i).wr
          · rw [if_pos h1, if_pos h1]; simp only [H']; rw [if_pos ⟨i, by omega, h1⟩]
          · rw [if_neg h1, if_neg h1]
        rw [e] at hs'
        exact hs'
      · intro n hn
        simp only [H']
        by_cases h2 : ∃ j, j < i ∧ n ∈ (F j).wr
        · obtain ⟨j, hj, hw⟩ := h2
          rw [if_pos ⟨j, by omega, hw⟩, if_pos ⟨j, hj, hw⟩, hkeeps i hi n hn]
        · rw [if_neg (fun ⟨j, hj, hw⟩ => by
            by_cases hji : j = i
            · subst hji; exact hn hw
            · exact h2 ⟨j, by omega, hw⟩), if_neg h2]
    have hend : dropL (H' ops.size) D = mv t (dropL (H ops.size) D) ⟨(Foot.sum F ops.size).rd, (Foot.sum F ops.size).wr ++ L⟩ := by
      funext n
      unfold mv dropL
      simp only [List.mem_append, sumwr]
      by_cases hd : n ∈ D
      · have hnl := hDL n hd
        simp only [hd, if_true, hnl, or_true]
      · simp only [hd, if_false]
        by_cases h1 : ∃ j, j < ops.size ∧ n ∈ (F j).wr
        · simp only [h1, true_or, if_true]
          simp only [H', h1, if_true]
        · simp only [h1, false_or]
          by_cases h2 : n ∈ L
          · simp only [h2, if_true]
            have e1 : H ops.size n = some .resv := by
              rw [upto ops.size (Nat.le_refl _) n (fun j hj hw => h1 ⟨j, hj, hw⟩), h0]; unfold reserve; simp [h2]
            simp only [H', h1, if_false, reserve, h2, if_true, e1]
          · simp only [h2, if_false]
            simp only [H', h1, if_false, reserve, h2]
    have hq' : ∀ ρ' a' w', ρ.le ρ' → Sat env w0 ρ' (S ops.size) (H' ops.size) (N ops.size) a' w' → Q .normal a' w' := fun ρ' a' w' hl hs' =>
      hq ρ' a' w' hl ⟨by rw [← hend]; exact hs'.hs.sub drop_sub, hs'.sl, hs'.df, hs'.nx⟩
    have hstart : ∀ w2 : World, w2.heap = w.heap → w2.os = w.os → w2.tape = w.tape → w2.output = w.output → Sat env w0 ρ (S 0) (H' 0) (N 0) a w2 := fun w2 c1 c2 c3 c4 =>
      ⟨by rw [hH'0]; exact (hs.hs.drawn c1 c2 c3 c4).reserve (fun m hm => by
          cases hρ : ρ m with
          | none => rfl
          | some p => have := hs.nx m p hρ; have := hL m hm; omega), hs.sl, hs.df, fun n p hn => by have := hs.nx n p hn; omega⟩
    cases hd : draw with
    | false =>
      refine wp_region ?_
      rw [List.range_eq_range']
      exact hC.inOrder ops.size 0 (by omega) ρ a w (hstart w rfl rfl rfl rfl) hq'
    | true =>
      refine wp_region_any hM ?_
      have hnone := hC.none (E := fun j => (Array.replicate ops.size false).getD j false) (fun k hk => by simp [hk])
      refine hC.anyOrder (hdraw hd) ops.size (Array.replicate ops.size false) (by simp) ?_ ?_ ρ a _ ?_ hq'
      · unfold undone
        have : ∀ j ∈ List.range ops.size, (!(Array.replicate ops.size false).getD j false) = true := fun j hj => by simp [List.mem_range.1 hj]
        rw [List.countP_eq_length.2 this, List.length_range]
      · intro j o hj hE
        have hjn : j < ops.size := (Array.getElem?_eq_some_iff.1 hj).1
        simp [hjn] at hE
      · rw [hnone.1, hnone.2.1, hnone.2.2]
        exact hstart _ rfl rfl rfl rfl
  | defN =>
    refine ⟨Nat.le_refl _, fun t ht ρ w ds' fn tmps R hs hnx hd hq => ?_⟩
    rw [hd.nil_eq]
    exact hq ρ w (PMap.le_refl ρ) (hs.ext (fun k => by simp [mv, Foot.nil, hget])) hnx
  | @defC f args ds h nx r h1 nx1 F1 h2 nx2 F2 hf1 hd1 ih1 ih2 =>
    obtain ⟨l1, s1⟩ := ih1
    obtain ⟨l2, s2⟩ := ih2
    have k1 := (hf1.loc).1
    have k2 := (hd1.loc).1
    refine ⟨Nat.le_trans l1 l2, fun t ht ρ w ds' fn tmps R hs hnx hd hq => ?_⟩
    cases hd with
    | @cons q l cs vs _ rr hrel hrest =>
      obtain ⟨_, hcd⟩ := s1 t (fun n hn => ht n (by simp [Foot.add, hn])) ρ w (vs ++ cs) hs hnx hrel
      have hinv : (invoke (.fn (.func f) cs.toArray) vs.toArray).run P w = .ok (.enter f (vs ++ cs).toArray) w := by
        cases hf1 with
        | fn hff hbb =>
          have e : vs.toArray ++ cs.toArray = (vs ++ cs).toArray := by apply Array.ext'; simp
          have hname := hP f _ hff (by rw [hbb]; rfl)
          have hnone := congrArg Option.isNone hbb
          simp only [Option.isNone_some] at hnone
          simp only [invoke, callFunc, Sem.run_bind, run_program, Result.andThen_ok, hff, hname, Bool.false_eq_true, if_false, hnone, Sem.run_pure, e]
      refine leaves_cons (by simp) hinv ((hcd rfl .returning).mono fun e u' w' hp => ?_)
      obtain ⟨rfl, ρ', v, rfl, b1, b2, b3, b4⟩ := hp
      show Leaves P fn tmps R rr .returning w'
      refine s2 _ ((moved_mv t _ _).reads k1 ht) ρ' w' rr fn tmps R b2 b3 (hrest.mono b1) fun ρ'' w'' c1 c2 c3 => ?_
      rw [mv_trans k2] at c2
      exact hq ρ'' w'' (PMap.le_trans b1 c1) c2 c3
  | @fn dfr f args h nx fn c ex fr1 h1 nx1 F1 h2 nx2 F2 r F3 D F hf hb hn hcode hex hdf hdefs hres hF3 hD hF ih1 ih2 =>
    obtain ⟨l1, s1⟩ := ih1
    obtain ⟨l2, s2⟩ := ih2
    have k1 := (hcode.loc).1
    have k2 := (hdefs.loc).1
    refine ⟨Nat.le_trans l1 l2, fun t ht ρ w vs hs hnx hvs => ?_⟩
    have ht : ∀ n ∈ ((F1.add F2).add F3).rd, t n = h n := fun n hn => ht n (hF.1 n hn)
    have hD : ∀ m ∈ D, m ∈ ((F1.add F2).add F3).wr := fun m hm => (hF.2 m).1 (hD m hm)
    rw [show mv t (dropL h2 D) F = mv t (dropL h2 D) ((F1.add F2).add F3) from by
      funext n; unfold mv
      by_cases hw : n ∈ F.wr
      · rw [if_pos hw, if_pos ((hF.2 n).1 hw)]
      · rw [if_neg hw, if_neg (fun h => hw ((hF.2 n).2 h))]]
    have hstart : Sat env w0 ρ ⟨args ++ repl (fn.ntmps - args.length) sundef, []⟩ t nx { tmps := vs.toArray ++ Array.replicate (fn.ntmps - vs.toArray.size) undef, defers := [] } w := by
      refine ⟨hs, ?_, .nil, hnx⟩
      have e : (vs.toArray ++ Array.replicate (fn.ntmps - vs.toArray.size) undef).toList = vs ++ List.replicate (fn.ntmps - args.length) undef := by
        have := hvs.length
        simp [this]
      show SV.Rels env ρ _ _
      rw [e]
      exact hvs.append (repl_undef _)
    have ht1 : ∀ n ∈ F1.rd, t n = h n := fun n hn => ht n (by simp [Foot.add, hn])
    have ht12 : ∀ n ∈ (F1.add F2).rd, t n = h n := fun n hn => ht n (by simp only [Foot.add, List.mem_append] at hn ⊢; exact .inl hn)
    have e3 : ∀ (b : Heap), mv t h2 (F1.add F2) = mv t h2 ((F1.add F2).add F3) := fun _ => by funext n; unfold mv; simp [Foot.add, hF3]
    have e4 : mv t (dropL h2 D) ((F1.add F2).add F3) = dropL (mv t h2 ((F1.add F2).add F3)) D := by
      funext n
      unfold mv dropL
      by_cases hd : n ∈ D
      · rw [if_pos (hD n hd), if_pos hd, if_pos hd]
      · rw [if_neg hd, if_neg hd]
    -- the results
    have fin : ∀ ρ' (a' : Act) w', ρ.le ρ' → SV.Rels env ρ' fr1.sl a'.tmps.toList → HSat env w0 ρ' (mv t h2 (F1.add F2)) w' → (∀ n p, ρ' n = some p → n < nx2) →
        ∃ v, (results fn a'.tmps).run P w' = .ok v w' ∧ Post env w0 ρ r (mv t (dropL h2 D) ((F1.add F2).add F3)) nx2 (.returned v) w' := by
      intro ρ' a' w' hl hsl hh hnx'
      obtain ⟨_, hl3⟩ := prog_loc hres
      obtain ⟨t3, g1, g2⟩ := hl3 (mv t h2 (F1.add F2)) (((moved_mv t h2 (F1.add F2))).reads (k1.trans k2) ht)
      obtain ⟨_, v, hv, hrun⟩ := resS_ok hh hsl g1.run
      exact ⟨v, hrun, ρ', v, rfl, hl, by rw [e4]; exact (show HSat env w0 ρ' (mv t h2 ((F1.add F2).add F3)) w' from e3 h2 ▸ hh).sub drop_sub, hnx', hv⟩
    refine ⟨calls_of_wp_defers hf hb (s1 t ht1 ρ _ w _ hstart fun ρ' a' w' hl hs' => ?_), fun hd u => callsD_of_wp hf hb (s1 t ht1 ρ _ w _ hstart fun ρ' a' w' hl hs' => ?_)⟩
    · have hleaves : Leaves P fn a'.tmps (Post env w0 ρ r (mv t (dropL h2 D) ((F1.add F2).add F3)) nx2) a'.defers .returning w' := by
        refine s2 _ ((moved_mv t _ _).reads k1 ht12) ρ' w' a'.defers fn a'.tmps _ hs'.hs hs'.nx hs'.df fun ρ'' w'' c1 c2 c3 => ?_
        rw [mv_trans k2] at c2
        exact fin ρ'' a' w'' (PMap.le_trans hl c1) (hs'.sl.mono c1) c2 c3
      rcases hex with e | e <;> (subst e; exact hleaves)
    · have hdf0 := hdf hd
      rw [hdf0] at hdefs
      have hdd : a'.defers = [] := by have := hs'.df; rw [hdf0] at this; exact this.nil_eq
      cases hdefs
      have e1 : mv t h1 F1 = mv t h1 (F1.add Foot.nil) := by funext n; unfold mv; simp [Foot.add, Foot.nil]
      have hh := hs'.hs
      rw [e1] at hh
      have hfin := fin ρ' a' w' hl hs'.sl hh hs'.nx
      rcases hex with e | e <;> (subst e; exact ⟨hdd, hfin⟩)
  | @ext f args h nx p r h' nx' F hx he =>
    obtain ⟨l, _⟩ := hX.fn _ _ _ _ _ _ _ _ hx he.run
    refine ⟨l, fun t ht ρ w vs hs hnx hvs => ⟨?_, fun h => by cases h⟩⟩
    obtain ⟨_, hl⟩ := prog_loc he
    obtain ⟨t', g1, g2⟩ := hl t ht
    have e := mv_of (t := t) (t' := t') (h' := h') (F := F) g2
    subst e
    exact (hX.fn _ _ _ _ _ _ _ _ hx g1.run).2 ρ w vs hs hnx hvs
  | @extL c fr h nx p ex fr' h' nx' F hx he =>
    obtain ⟨l, _⟩ := hX.lp _ _ _ _ _ _ _ _ _ hx he.run
    refine ⟨l, fun t ht ρ a w Q hs hq => ?_⟩
    obtain ⟨_, hl⟩ := prog_loc he
    obtain ⟨t', g1, g2⟩ := hl t ht
    have e := mv_of (t := t) (t' := t') (h' := h') (F := F) g2
    subst e
    exact (hX.lp _ _ _ _ _ _ _ _ _ hx g1.run).2 ρ a w Q hs hq

end
end Go.Sx
