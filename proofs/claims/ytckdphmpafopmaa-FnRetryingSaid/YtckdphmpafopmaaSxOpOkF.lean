/-
  SX, PART 5f: places, fields, indexes, slices, conversions, interfaces.
-/
import Derived.Test.YtckdphmpafopmaaSxOpOkE
namespace Go.Sx
open Go.RowKit
set_option linter.unusedVariables false
set_option linter.unusedSimpArgs false

section
variable {P : Program} {env : Env} {w0 : Anchor} {w : World} {ρ : PMap} {h h' : Heap} {nm : Nat}

theorem unS_ok (H : HSat env w0 ρ h w) {op : UnOp} {x r : SV} {v : Value} (hx : x.Rel env ρ v) (he : (unS op x).Run env h r h') :
    SemOk P env w0 ρ nm h' w (Op.unary op v) r := by
  unfold unS at he
  split at he
  · simp only [SV.Rel] at hx; subst hx
    obtain ⟨rfl, hr⟩ := arith_ok (ρ := ρ) he
    rw [mk2_den] at hr
    exact SemOk.same H (by simp [Op.unary, Op.intArith, E.den, O2.den, Ii]) hr
  · simp only [SV.Rel] at hx; subst hx
    simp only [run_pure] at he
    obtain ⟨rfl, rfl⟩ := he
    exact SemOk.same H (v := .bool _) rfl (by simp only [SV.Rel, B_notE])
  · exact he.elim

theorem convS_ok (H : HSat env w0 ρ h w) {src dst : TypeId} {x r : SV} {v : Value} (hx : x.Rel env ρ v) (he : (convS P src dst x).Run env h r h') :
    SemOk P env w0 ρ nm h' w (convert src dst v) r := by
  simp only [convS, run_bind, run_und] at he
  obtain ⟨s, _, ⟨hs, rfl⟩, d, _, ⟨hd, rfl⟩, he⟩ := he
  split at he
  · simp only [SV.Rel] at hx; subst hx
    obtain ⟨rfl, hr⟩ := arith_ok (ρ := ρ) he
    exact SemOk.same H (by simp [convert, s_und hs, s_und hd, Conv.intToInt]) hr
  · simp only [SV.Rel] at hx; subst hx
    simp only [run_pure] at he
    obtain ⟨rfl, rfl⟩ := he
    exact SemOk.same H (by simp only [convert, Sem.run_bind, s_und hs, s_und hd, Result.andThen_ok, Conv.intToFloat, Sem.run_pure]) (show SV.Rel env ρ (.flt (.ofI _)) (.float .f64 (FloatKind.f64.nearest _)) from rfl)
  · rename_i c e
    simp only [SV.Rel] at hx; subst hx
    simp only [run_bind, run_vcE, run_pure] at he
    obtain ⟨_, _, ⟨hk, rfl⟩, rfl, rfl⟩ := he
    obtain ⟨q, h1, h2, h3, h4⟩ := flOk_some hk
    refine SemOk.same H (v := .int .i64 (flVal c (e.den env).I)) ?_ rfl
    simp only [convert, Sem.run_bind, s_und hs, s_und hd, Result.andThen_ok, Conv.floatToInt, FE.den, h1, Option.getD_some, h2, if_pos (And.intro h3 h4), Sem.run_pure]
  · simp only [SV.Rel] at hx; subst hx
    simp only [run_pure] at he
    obtain ⟨rfl, rfl⟩ := he
    exact SemOk.same H (v := .string _) (by simp only [convert, Sem.run_bind, s_und hs, s_und hd, Result.andThen_ok, Sem.run_pure]) rfl
  · rename_i e n sz
    simp only [run_bind, run_und] at he
    obtain ⟨u, _, ⟨hu, rfl⟩, he⟩ := he
    split at he
    · simp only [run_bind, run_getN] at he
      obtain ⟨o, _, ⟨ho, rfl⟩, he⟩ := he
      split at he
      · rename_i T c
        simp only [run_pure] at he
        obtain ⟨rfl, rfl⟩ := he
        obtain ⟨q, vs, rest, h1, h2, h3, h4, ⟨base, tl, rfl, hb1, hb2, hb3, hb4, hb5⟩, h6, h7⟩ := H.objs n _ ho
        simp only [SV.Rel] at hx
        obtain ⟨p, A, hp, rfl, _, hA, hle, _⟩ := hx
        rw [hp] at h1; injection h1 with h1; subst h1
        have e0 : base = [] := List.length_eq_zero_iff.1 (by rw [hb1]; rfl)
        subst e0
        have hfl : ([[SV.int .u8 c]] : List (List SV)).flatten = [.int .u8 c] := rfl
        rw [hfl] at hb3
        simp only [SV.Rels] at hb3
        obtain ⟨v, r, rfl, hv, rfl⟩ := hb3
        have hv : v = .int .u8 (c.den env).I := hv
        subst hv
        have hcap : 0 < p.cap := by
          have e1 : ((E.il 1).den env).I.toNat = 1 := rfl
          have e2 : ((E.il 0).den env).I.toNat = 0 := rfl
          rw [e1, e2] at hle
          omega
        have hA := hA hcap
        have e2 : ((E.il 0).den env).I.toNat = 0 := rfl
        rw [e2, Nat.zero_mul, h3] at hA
        subst hA
        refine SemOk.same H (v := .string (ByteArray.empty.push (UInt8.ofNat (c.den env).I.toNat))) ?_ (by simp only [SV.Rel, E.den, O1.den, Ss])
        have hload := run_loadCells_list (P := P) w ⟨p.block, 0 + 0, none⟩ [.int .u8 (c.den env).I] (fun j v hj => by
          cases j with
          | zero =>
            simp only [List.getElem?_cons_zero, Option.some.injEq] at hj
            subst hj
            rw [add_at, cell_of h7]
            rfl
          | succ j => simp at hj)
        have e3 : ((E.il 1).den env).I.toNat = 1 := rfl
        rw [e3]
        simp only [convert, Sem.run_bind, s_und hs, s_und hd, Result.andThen_ok, s_und hu, Conv.bytesToString]
        have hload : (loadCells ⟨p.block, 0 + 0, none⟩ 1).run P w = .ok [Value.int .u8 (c.den env).I].toArray w := hload
        rw [hload]
        simp
      · exact he.elim
    · exact he.elim
  · exact he.elim

theorem shape_of {b : Nat} {c : Array Value} {T : TypeId} {fz : Nat × Nat} (hb : w.heap[b]? = some (.cells c T fz)) : w.shape? b = some (T, c.size) := by
  simp [World.shape?, hb]

theorem run_byteOf {b o : Nat} {c : Array Value} {T : TypeId} {fz : Nat × Nat} (hb : w.heap[b]? = some (.cells c T fz)) (h0 : 0 < P.cellsOf T)
    (hs : (byteOfCell P P.depth T (o % P.cellsOf T)).isSome = true) : ∃ n, (byteOf ⟨b, o, none⟩).run P w = .ok n w := by
  obtain ⟨q, hq⟩ := Option.isSome_iff_exists.1 hs
  refine ⟨o / P.cellsOf T * P.bytesOf T + q, ?_⟩
  have hne : ¬ (P.cellsOf T = 0) := by omega
  simp only [byteOf, noView, viewAt, Sem.run_bind, run_program, run_shape, shape_of hb, Result.andThen_ok, Option.isSome_some, if_true, Sem.run_pure, Option.isSome_none, Bool.false_eq_true, if_false, if_neg hne, hq]

theorem fieldS_ok (H : HSat env w0 ρ h w) {t : TypeId} {x r : SV} {v : Value} {f : Nat} (hx : x.Rel env ρ v) (he : (fieldS P t x f).Run env h r h') :
    SemOk P env w0 ρ nm h' w (Instr.fieldAt t v f) r := by
  simp only [fieldS, run_bind, run_und] at he
  obtain ⟨u, _, ⟨hu, rfl⟩, he⟩ := he
  cases u with
  | struct fields =>
    simp only [run_bind, run_ofOpt] at he
    obtain ⟨fd, _, ⟨hf, rfl⟩, sz, _, ⟨hsz, rfl⟩, he⟩ := he
    obtain ⟨i, hi, rfl⟩ := sizeT_some hsz
    cases x with
    | ptr n off =>
      simp only [SV.Rel] at hx
      obtain ⟨p, hp, rfl⟩ := hx
      cases off with
      | c j =>
        simp only at he
        cases hs : i.size with
        | zero =>
          rw [hs] at he
          simp only [run_bind, run_getN] at he
          obtain ⟨o, _, ⟨ho, rfl⟩, he⟩ := he
          cases o with
          | cells T cs =>
            simp only [run_bind, run_must, run_pure] at he
            obtain ⟨_, _, ⟨hb1, rfl⟩, _, _, ⟨h0, rfl⟩, _, _, ⟨hb2, rfl⟩, rfl, rfl⟩ := he
            obtain ⟨q, vs, g1, g2, g3, g4, g5, g6⟩ := H.objs n _ ho
            obtain rfl : q = p := by rw [hp] at g1; exact (Option.some.inj g1).symm
            have h0 : 0 < P.cellsOf T := by simp only [Nat.blt] at h0; exact Nat.le_of_ble_eq_true h0
            obtain ⟨n1, e1⟩ := run_byteOf (P := P) (o := j) g6 h0 hb1
            obtain ⟨n2, e2⟩ := run_byteOf (P := P) (o := j + fd.offset) g6 h0 hb2
            refine ⟨.pointer (some (if n2 = n1 + fd.byteOffset then ⟨q.block, j + fd.offset, none⟩ else ⟨q.block, j + fd.offset, some (n1 + fd.byteOffset)⟩)), w, ρ, ?_, PMap.le_refl ρ, fun n hn => .inl hn, H, ⟨_, rfl⟩⟩
            simp only [Instr.fieldAt, Instr.sureAddr, fieldPlace, partAt, Sem.run_bind, s_und hu, hf, Result.andThen_ok, Sem.run_pure, s_size hi, hs, if_true, Off.den, g3, Nat.zero_add, e1, e2]
          | _ => exact he.elim
        | succ k =>
          rw [hs] at he
          simp only [run_pure] at he
          obtain ⟨rfl, rfl⟩ := he
          refine SemOk.same H ?_ ⟨p, hp, rfl⟩
          have : ¬ (i.size = 0) := by omega
          simp [Instr.fieldAt, Instr.sureAddr, fieldPlace, s_und hu, hf, s_size hi, this, add_at, Off.den, Nat.add_assoc]
      | el ix s j =>
        simp only at he
        cases hs : i.size with
        | zero => rw [hs] at he; exact he.elim
        | succ k =>
          rw [hs] at he
          simp only [run_pure] at he
          obtain ⟨rfl, rfl⟩ := he
          refine SemOk.same H ?_ ⟨p, hp, rfl⟩
          have : ¬ (i.size = 0) := by omega
          simp [Instr.fieldAt, Instr.sureAddr, fieldPlace, s_und hu, hf, s_size hi, this, add_at, Off.den, Nat.add_assoc]
    | dptr ks e ix j =>
      simp only [SV.Rel] at hx
      obtain ⟨b, o, rfl, hrow⟩ := hx
      simp only at he
      cases hs : i.size with
      | zero => rw [hs] at he; exact he.elim
      | succ k =>
        rw [hs] at he
        simp only [run_pure] at he
        obtain ⟨rfl, rfl⟩ := he
        refine SemOk.same H (v := .pointer (some ⟨b, o + (j + fd.offset), none⟩)) ?_ ⟨b, o, rfl, hrow⟩
        have : ¬ (i.size = 0) := by omega
        simp [Instr.fieldAt, Instr.sureAddr, fieldPlace, s_und hu, hf, s_size hi, this, add_at, Nat.add_assoc]
    | _ => exact he.elim
  | _ => exact he.elim

theorem fieldV_ok (H : HSat env w0 ρ h w) {t : TypeId} {x r : SV} {v : Value} {f : Nat} (hx : x.Rel env ρ v) (he : (fieldV P t x f).Run env h r h') :
    SemOk P env w0 ρ nm h' w (Instr.field t v f) r := by
  simp only [fieldV, run_bind, run_und] at he
  obtain ⟨u, _, ⟨hu, rfl⟩, he⟩ := he
  split at he
  · simp only [SV.Rel] at hx
    obtain ⟨vs, rfl, hvs⟩ := hx
    simp only [run_bind, run_ofOpt, run_und, run_inf] at he
    obtain ⟨fd, _, ⟨hf, rfl⟩, d, _, ⟨hd, rfl⟩, i, _, ⟨hi, rfl⟩, he⟩ := he
    cases hagg : isAggD d with
    | true =>
      rw [hagg] at he
      simp only [run_bind, takeN_run, run_pure] at he
      obtain ⟨l, _, ⟨hl, hlen, rfl⟩, rfl, rfl⟩ := he
      have hr := (hvs.drop fd.offset).take i.size
      rw [← hl] at hr
      refine SemOk.same H (v := .agg ((vs.drop fd.offset).take i.size).toArray) ?_ ⟨_, rfl, hr⟩
      have e : vs.toArray.extract fd.offset (fd.offset + i.size) = ((vs.drop fd.offset).take i.size).toArray := by
        apply Array.ext'
        simp [List.extract_eq_take_drop]
      simp only [Instr.field, part, Sem.run_bind, s_und hu, hf, Result.andThen_ok, asAgg, Sem.run_pure, s_isAgg hd, hagg, if_true, s_size hi, e]
    | false =>
      rw [hagg] at he
      simp only [run_ofOpt] at he
      obtain ⟨hc, rfl⟩ := he
      obtain ⟨u, h1, h2⟩ := hvs.get hc
      refine SemOk.same H ?_ h2
      simp [Instr.field, part, s_und hu, hf, asAgg, s_isAgg hd, hagg, h1]
  · exact he.elim

theorem indexS_ok (H : HSat env w0 ρ h w) {t : TypeId} {x ix r : SV} {v u : Value} (hx : x.Rel env ρ v) (hi : ix.Rel env ρ u) (he : (indexS P t x ix).Run env h r h') :
    SemOk P env w0 ρ nm h' w (Instr.indexAt t v u) r := by
  simp only [indexS, run_bind, run_und] at he
  obtain ⟨ty, _, ⟨hty, rfl⟩, he⟩ := he
  split at he
  · rename_i elem n sz lo len k i
    simp only [run_bind, run_ofOpt, run_must, inB_run, run_pure] at he
    obtain ⟨s, _, ⟨hs, rfl⟩, _, _, ⟨hss, rfl⟩, _, _, ⟨⟨hi0, hi1⟩, rfl⟩, rfl, rfl⟩ := he
    obtain ⟨ti, hti, rfl⟩ := sizeT_some hs
    obtain rfl := Nat.eq_of_beq_eq_true hss
    simp only [SV.Rel] at hx hi
    subst hi
    obtain ⟨p, A, hp, rfl, hx2, hx3, hx1, hx4⟩ := hx
    have hA := hx3 (by omega)
    subst hA
    refine SemOk.same H (v := .pointer (some ⟨p.block, p.base + (lo.den env).I.toNat * ti.size + (i.den env).I.toNat * ti.size, none⟩)) ?_ ⟨p, hp, ?_⟩
    · have hlt : (i.den env).I < (((len.den env).I.toNat : Nat) : Int) := by omega
      simp only [Instr.indexAt, Sem.run_bind, asIntOf, Sem.run_pure, Result.andThen_ok, s_und hty, if_pos (And.intro hi0 hlt), s_size hti, add_at]
    · simp only [Off.den, addI_I]
      congr 3
      rw [Int.toNat_add hx4 hi0, Nat.add_mul]; omega
  · rename_i elem ks e k i
    simp only [run_bind, run_ofOpt, run_must, inB_run, run_pure] at he
    obtain ⟨s, _, ⟨hs, rfl⟩, _, _, ⟨hss, rfl⟩, _, _, ⟨⟨hi0, hi1⟩, rfl⟩, rfl, rfl⟩ := he
    obtain ⟨ti, hti, rfl⟩ := sizeT_some hs
    have hss := Nat.eq_of_beq_eq_true hss
    simp only [SV.Rel, DK.Rel] at hx hi
    subst hi
    obtain ⟨A, cap, rfl, hx1, hx2⟩ := hx
    rw [mk1_den] at hi1
    have hi1 : (i.den env).I < (((e.den env).T.length : Nat) : Int) := hi1
    obtain ⟨b, o, rfl, hrow⟩ := hx2 (by omega)
    refine SemOk.same H (v := .pointer (some ⟨b, o + (i.den env).I.toNat * ti.size, none⟩)) ?_ ⟨b, o + (i.den env).I.toNat * ti.size, rfl, ?_⟩
    · simp only [Instr.indexAt, Sem.run_bind, asIntOf, Sem.run_pure, Result.andThen_ok, s_und hty, if_pos (And.intro hi0 hi1), s_size hti, add_at]
    · have := hrow (i.den env).I.toNat (by omega)
      rw [← hss] at this
      exact this
  · rename_i alen elem n j k i
    simp only [run_bind, run_ofOpt, run_must, run_pure] at he
    obtain ⟨s, _, ⟨hs, rfl⟩, m, _, ⟨hm, rfl⟩, _, _, ⟨hlt, rfl⟩, rfl, rfl⟩ := he
    obtain ⟨ti, hti, rfl⟩ := sizeT_some hs
    have hM := nat?_ok (env := env) hm
    have hlt : m < alen := by simp only [Nat.blt] at hlt; exact Nat.le_of_ble_eq_true hlt
    simp only [SV.Rel] at hx hi
    subst hi
    obtain ⟨p, hp, rfl⟩ := hx
    refine SemOk.same H ?_ ⟨p, hp, rfl⟩
    have h2 : (0 : Int) ≤ (m : Int) ∧ (m : Int) < (alen : Int) := by omega
    simp only [Instr.indexAt, Sem.run_bind, asIntOf, Sem.run_pure, Result.andThen_ok, s_und hty, Instr.sureAddr, hM, if_pos h2, s_size hti, add_at, Int.toNat_natCast, Off.den, Nat.add_assoc]
  · exact he.elim

theorem indexV_ok (H : HSat env w0 ρ h w) {t : TypeId} {x ix r : SV} {v u : Value} (hx : x.Rel env ρ v) (hi : ix.Rel env ρ u) (he : (indexV P t x ix).Run env h r h') :
    SemOk P env w0 ρ nm h' w (Instr.index t v u) r := by
  simp only [indexV, run_bind, run_und] at he
  obtain ⟨ty, _, ⟨hty, rfl⟩, he⟩ := he
  split at he
  · simp only [run_bind, inB_run, mk1_den, run_pure] at he
    obtain ⟨_, _, ⟨⟨hi0, hi1⟩, rfl⟩, rfl, rfl⟩ := he
    simp only [SV.Rel] at hx hi
    subst hi; subst hx
    simp only [E.den, O1.den, Ii] at hi1
    rename_i s _ i _
    have hlt : (i.den env).I.toNat < (s.den env).S.size := by omega
    have hlt2 : (i.den env).I.toNat < (s.den env).S.data.size := hlt
    refine SemOk.same H (v := .int .u8 ((s.den env).S.data[(i.den env).I.toNat]'hlt2).toNat) ?_ ?_
    · have hg : (s.den env).S[(i.den env).I.toNat]? = some ((s.den env).S.data[(i.den env).I.toNat]'hlt2) := by
        rw [getElem?_pos (s.den env).S _ hlt]; rfl
      simp only [Instr.index, Sem.run_bind, asIntOf, Sem.run_pure, Result.andThen_ok, s_und hty, if_pos hi0, hg]
    · simp only [SV.Rel, E.den, O2.den, Ii, Array.getElem?_eq_getElem hlt2, Option.getD_some]
  · exact he.elim

theorem bound_ok {k : IntKind} {n : Int} {y : Nat} {code : BoundsCode} (h0 : 0 ≤ n) (h1 : n ≤ (y : Int)) : (Instr.sliceBound (.int k n) y code).run P w = .ok n.toNat w := by
  simp only [Instr.sliceBound, Sem.run_bind, asIntOf, Sem.run_pure, Result.andThen_ok, if_pos (And.intro h0 h1)]

/-- The bounds of a slice expression. -/
theorem bounds_ok {isSl : Bool} {len cap : Nat} {lo hi : Option Value} {l hh : Int}
    (hl : (lo = none ∧ l = 0) ∨ ∃ k, lo = some (.int k l)) (hhi : (hi = none ∧ hh = (len : Int)) ∨ ∃ k, hi = some (.int k hh))
    (h0 : 0 ≤ l) (h1 : l ≤ hh) (h2 : hh ≤ (cap : Int)) : (Instr.sliceBounds isSl len cap lo hi none).run P w = .ok (l.toNat, hh.toNat, cap) w := by
  have b2 : ∀ k code, (Instr.sliceBound (.int k hh) cap code).run P w = .ok hh.toNat w := fun k code => bound_ok (by omega) h2
  have b1 : ∀ k code, (Instr.sliceBound (.int k l) hh.toNat code).run P w = .ok l.toNat w := fun k code => bound_ok h0 (by omega)
  rcases hl with ⟨rfl, rfl⟩ | ⟨k, rfl⟩ <;> rcases hhi with ⟨rfl, rfl⟩ | ⟨k', rfl⟩
  · simp [Instr.sliceBounds]
  · simp only [Instr.sliceBounds, Sem.run_bind, Sem.run_pure, Result.andThen_ok, b2]; simp
  · have := b1 k .sliceB; simp only [Int.toNat_natCast] at this
    simp only [Instr.sliceBounds, Sem.run_bind, Sem.run_pure, Result.andThen_ok, Option.isSome_none, Bool.false_eq_true, if_false, this, Int.toNat_natCast]
  · simp only [Instr.sliceBounds, Sem.run_bind, Sem.run_pure, Result.andThen_ok, Option.isSome_none, Bool.false_eq_true, if_false, b1, b2]

inductive OptRel (env : Env) (ρ : PMap) : Option SV → Option Value → Prop
  | none : OptRel env ρ none none
  | some {x : SV} {v : Value} : x.Rel env ρ v → OptRel env ρ (some x) (some v)

theorem toNat_sub_le {a b : Int} (h0 : 0 ≤ b) (h : b ≤ a) : (a - b).toNat = a.toNat - b.toNat := by omega
theorem boundS_ok {dflt e : E} {o : Option SV} {vo : Option Value} {h h' : Heap} (ho : OptRel env ρ o vo) (hr : (boundS dflt o).Run env h e h') :
    h = h' ∧ ((vo = none ∧ (e.den env).I = (dflt.den env).I) ∨ ∃ k, vo = some (.int k (e.den env).I)) := by
  cases ho with
  | none =>
    simp only [boundS, run_ret] at hr
    obtain ⟨rfl, rfl⟩ := hr
    exact ⟨rfl, .inl ⟨rfl, rfl⟩⟩
  | some hv =>
    rename_i y vy
    cases y with
    | int k e =>
      simp only [boundS, run_ret] at hr
      obtain ⟨rfl, rfl⟩ := hr
      simp only [SV.Rel] at hv
      subst hv
      exact ⟨rfl, .inr ⟨k, rfl⟩⟩
    | _ => exact hr.elim

theorem sliceS_ok (H : HSat env w0 ρ h w) {t : TypeId} {x r : SV} {v : Value} {lo hi : Option SV} {vlo vhi : Option Value} (hx : x.Rel env ρ v) (hlo : OptRel env ρ lo vlo) (hhi : OptRel env ρ hi vhi)
    (he : (sliceS P t x lo hi).Run env h r h') : SemOk P env w0 ρ nm h' w (Instr.sliceAt t v vlo vhi none) r := by
  simp only [sliceS, run_bind, run_und] at he
  obtain ⟨ty, _, ⟨hty, rfl⟩, l, h1, hl, he⟩ := he
  obtain ⟨rfl, hL⟩ := boundS_ok hlo hl
  rw [I_il] at hL
  split at he
  · rename_i s
    simp only [run_bind, run_vcE, leE_iff, I_il, mk1_den, run_pure] at he
    obtain ⟨e, h2, hhe, _, _, ⟨b0, rfl⟩, _, _, ⟨b1, rfl⟩, _, _, ⟨b2, rfl⟩, rfl, rfl⟩ := he
    obtain ⟨rfl, hH⟩ := boundS_ok hhi hhe
    simp only [SV.Rel] at hx
    subst hx
    simp only [mk1_den, E.den, O1.den, Ii] at hH b2
    have := bounds_ok (P := P) (w := w) (isSl := false) hL hH b0 b1 b2
    exact SemOk.same H (v := .string ((s.den env).S.extract (l.den env).I.toNat (e.den env).I.toNat)) (by simp only [Instr.sliceAt, Instr.slice, Sem.run_bind, s_und hty, Result.andThen_ok, Option.isSome_none, Bool.false_eq_true, if_false, this, Sem.run_pure]) (by simp only [SV.Rel, E.den, Ss])
  · simp only [run_bind, run_ofOpt, run_must, run_vcE, leE_iff, I_il, run_pure] at he
    rename_i elem n sz lo0 len
    obtain ⟨s, _, ⟨hs, rfl⟩, _, _, ⟨hss, rfl⟩, e, h2, hhe, _, _, ⟨b0, rfl⟩, _, _, ⟨b1, rfl⟩, _, _, ⟨b2, rfl⟩, rfl, rfl⟩ := he
    obtain ⟨rfl, hH⟩ := boundS_ok hhi hhe
    obtain ⟨ti, hti, rfl⟩ := sizeT_some hs
    obtain rfl := Nat.eq_of_beq_eq_true hss
    simp only [SV.Rel] at hx
    obtain ⟨p, A, hp, rfl, hx2, hx3, hx1, hx4⟩ := hx
    have hlen0 : 0 ≤ (len.den env).I := by omega
    have hH' : (vhi = none ∧ (e.den env).I = (((len.den env).I.toNat : Nat) : Int)) ∨ ∃ k, vhi = some (.int k (e.den env).I) := by
      rcases hH with ⟨q1, q2⟩ | q
      · exact .inl ⟨q1, by omega⟩
      · exact .inr q
    have hb := bounds_ok (P := P) (w := w) (isSl := true) (len := (len.den env).I.toNat) (cap := p.cap - (lo0.den env).I.toNat) hL hH' b0 b1 (by omega)
    refine SemOk.same H (v := .slice (if p.cap - (lo0.den env).I.toNat = (l.den env).I.toNat then A else A.map (·.add ((l.den env).I.toNat * ti.size))) ((e.den env).I.toNat - (l.den env).I.toNat) (p.cap - (lo0.den env).I.toNat - (l.den env).I.toNat)) ?_ ⟨p, (if p.cap - (lo0.den env).I.toNat = (l.den env).I.toNat then A else A.map (·.add ((l.den env).I.toNat * ti.size))), hp, ?_, ?_, ?_, ?_, ?_⟩
    · simp only [Instr.sliceAt, Instr.slice, Sem.run_bind, s_und hty, Result.andThen_ok, hb, s_size hti, Sem.run_pure]
    · simp only [addI_I, subI_I]
      rw [toNat_sub_le b0 b1, Int.toNat_add hx4 b0, Nat.sub_sub]
    · rw [← hx2]
      split
      · exact Iff.rfl
      · cases A <;> simp
    · simp only [addI_I, subI_I]
      rw [Int.toNat_add hx4 b0]
      intro hlt
      rw [if_neg (by omega), hx3 (by omega)]
      simp only [Option.map_some, add_at, Nat.add_mul, Nat.add_assoc]
    · simp only [addI_I, subI_I]
      omega
    · simp only [addI_I, subI_I]
      omega
  · simp only [run_bind, run_ofOpt, run_must, run_vcE, leE_iff, I_il, run_pure] at he
    rename_i elem ks x
    obtain ⟨s, _, ⟨hs, rfl⟩, _, _, ⟨hss, rfl⟩, e, h2, hhe, _, _, ⟨b0, rfl⟩, _, _, ⟨b1, rfl⟩, _, _, ⟨b2, rfl⟩, rfl, rfl⟩ := he
    obtain ⟨rfl, hH⟩ := boundS_ok hhi hhe
    obtain ⟨ti, hti, rfl⟩ := sizeT_some hs
    have hss := Nat.eq_of_beq_eq_true hss
    simp only [SV.Rel, DK.Rel] at hx
    obtain ⟨A, cap, rfl, hx1, hx2⟩ := hx
    simp only [mk1_den, E.den, O1.den, Ii] at hH b2
    have hb := bounds_ok (P := P) (w := w) (isSl := true) (len := (x.den env).T.length) (cap := cap) hL hH b0 b1 (by omega)
    have hT : ((subT x l e).den env).T = ((x.den env).T.take (e.den env).I.toNat).drop (l.den env).I.toNat := subT_T x l e
    have hTl : ((subT x l e).den env).T.length = (e.den env).I.toNat - (l.den env).I.toNat := by
      rw [hT, List.length_drop, List.length_take]; omega
    refine SemOk.same H (v := .slice (if cap = (l.den env).I.toNat then A else A.map (·.add ((l.den env).I.toNat * ti.size))) ((e.den env).I.toNat - (l.den env).I.toNat) (cap - (l.den env).I.toNat)) ?_ ?_
    · simp only [Instr.sliceAt, Instr.slice, Sem.run_bind, s_und hty, Result.andThen_ok, hb, s_size hti, Sem.run_pure]
    · simp only [SV.Rel, DK.Rel]
      refine ⟨_, _, by rw [hTl], by rw [hTl]; omega, fun hl => ?_⟩
      rw [hTl] at hl
      obtain ⟨b, o, rfl, hrow⟩ := hx2 (by omega)
      rw [if_neg (by omega)]
      refine ⟨b, o + (l.den env).I.toNat * ti.size, by simp only [Option.map_some, add_at], fun i hi => ?_⟩
      rw [hTl] at hi
      have := hrow ((l.den env).I.toNat + i) (by omega)
      have e1 : (fun j => ((subT x l e).den env).at i j) = fun j => (x.den env).at ((l.den env).I.toNat + i) j := by
        funext j
        unfold Dv.at
        rw [hT, List.getElem?_drop, List.getElem?_take_of_lt (by omega)]
      rw [e1]
      have e2 : ∀ j, o + ((l.den env).I.toNat + i) * ks.len + j = o + (l.den env).I.toNat * ti.size + i * ks.len + j := fun j => by
        rw [← hss, Nat.add_mul]; omega
      simp only [e2] at this
      exact this
  · exact he.elim

theorem ifaceS_ok (H : HSat env w0 ρ h w) {t : TypeId} {x r : SV} {v : Value} (hx : x.Rel env ρ v) (he : (ifaceS P t x).Run env h r h') :
    SemOk P env w0 ρ nm h' w (Instr.makeInterface t v) r := by
  simp only [ifaceS, run_bind, run_und] at he
  obtain ⟨ty, _, ⟨hty, rfl⟩, he⟩ := he
  split at he
  · exact he.elim
  · rename_i hne
    simp only [run_pure] at he
    obtain ⟨rfl, rfl⟩ := he
    refine SemOk.same H (v := .iface t v) ?_ ⟨v, rfl, hx⟩
    simp only [Instr.makeInterface, Sem.run_bind, s_und hty, Result.andThen_ok]
    cases ty <;> first
      | rfl
      | exact absurd rfl (hne _)

theorem assertS_ok (H : HSat env w0 ρ h w) {xt t : TypeId} {x r : SV} {v : Value} {ok : Bool} (hx : x.Rel env ρ v) (he : (assertS P x t ok).Run env h r h') :
    SemOk P env w0 ρ nm h' w (Instr.typeAssert v xt t ok) r := by
  simp only [assertS, run_bind, run_und] at he
  obtain ⟨ty, _, ⟨hty, rfl⟩, he⟩ := he
  have no : ∀ {q : Prog SV} {s d : Option TypeId} {m : String}, q = (cond ok (do let z ← zeroS P t; return .tup [z, .bool (.bl false)]) (.fail "a type assertion that fails")) → q.Run env h r h' →
      ok = true ∧ h = h' ∧ ∃ z, r.Rel env ρ (.tuple #[z, .bool false]) ∧ ∀ w : World, (zeroValue t).run P w = .ok z w := by
    intro q s d m hq hr
    subst hq
    cases ok with
    | false => exact hr.elim
    | true =>
      simp only [cond_true, run_bind, run_zeroS, run_pure] at hr
      obtain ⟨z, _, ⟨⟨i, zv, h1, h2, h3⟩, rfl⟩, rfl, rfl⟩ := hr
      exact ⟨rfl, rfl, zv, ⟨[zv, .bool false], rfl, ⟨zv, _, rfl, ofVal_ok zv h3, ⟨_, _, rfl, rfl, rfl⟩⟩⟩, s_zero h1 h2⟩
  have yes : ∀ {q : Prog SV} {y : SV} {u : Value}, q = (cond ok (.ret (.tup [y, .bool (.bl true)])) (.ret y)) → y.Rel env ρ u → q.Run env h r h' →
      h = h' ∧ r.Rel env ρ (if ok then .tuple #[u, .bool true] else u) := by
    intro q y u hq hy hr
    subst hq
    cases ok with
    | false => simp only [cond_false, run_ret] at hr; obtain ⟨rfl, rfl⟩ := hr; exact ⟨rfl, hy⟩
    | true => simp only [cond_true, run_ret] at hr; obtain ⟨rfl, rfl⟩ := hr; exact ⟨rfl, [u, .bool true], rfl, ⟨u, _, rfl, hy, ⟨_, _, rfl, rfl, rfl⟩⟩⟩
  split at he
  · obtain ⟨rfl, rfl, z, h1, h2⟩ := no (s := none) (d := none) (m := "") rfl he
    simp only [SV.Rel] at hx; subst hx
    exact SemOk.same H (by simp only [Instr.typeAssert, Sem.run_bind, s_und hty, Result.andThen_ok, if_true, h2, Sem.run_pure]) h1
  · rename_i want t' y'
    have hx' := hx
    simp only [SV.Rel] at hx
    obtain ⟨u, rfl, hu⟩ := hx
    simp only [run_bind, run_inf] at he
    obtain ⟨i, _, ⟨hi, rfl⟩, he⟩ := he
    split at he
    · rename_i hm
      obtain ⟨rfl, h1⟩ := yes rfl hx' he
      exact SemOk.same H (by simp only [Instr.typeAssert, Sem.run_bind, s_und hty, Result.andThen_ok, s_inf hi, hm, Sem.run_pure]) h1
    · rename_i m hm
      obtain ⟨rfl, rfl, z, h1, h2⟩ := no (s := none) (d := none) (m := "") rfl he
      exact SemOk.same H (by simp only [Instr.typeAssert, Sem.run_bind, s_und hty, Result.andThen_ok, s_inf hi, hm, if_true, h2, Sem.run_pure]) h1
  · rename_i hne
    obtain ⟨rfl, rfl, z, h1, h2⟩ := no (s := none) (d := none) (m := "") rfl he
    simp only [SV.Rel] at hx; subst hx
    refine SemOk.same H ?_ h1
    simp only [Instr.typeAssert, Sem.run_bind, s_und hty, Result.andThen_ok]
    cases ty <;> first
      | (exact absurd rfl (hne _); done)
      | (simp only [if_true, Sem.run_bind, h2, Result.andThen_ok, Sem.run_pure]; done)
  · rename_i t' y' hne
    simp only [SV.Rel] at hx
    obtain ⟨u, rfl, hu⟩ := hx
    cases hb : Nat.beq t' t with
    | true =>
      rw [hb] at he
      simp only [cond_true] at he
      obtain rfl := Nat.eq_of_beq_eq_true hb
      obtain ⟨rfl, h1⟩ := yes (u := u) rfl hu he
      refine SemOk.same H ?_ h1
      simp only [Instr.typeAssert, Sem.run_bind, s_und hty, Result.andThen_ok]
      cases ty <;> first
        | (exact absurd rfl (hne _); done)
        | (simp only [if_true, Sem.run_pure]; done)
    | false =>
      rw [hb] at he
      simp only [cond_false] at he
      have hnt : t' ≠ t := fun e => by subst e; rw [Nat.beq_refl] at hb; cases hb
      obtain ⟨rfl, rfl, z, h1, h2⟩ := no (s := none) (d := none) (m := "") rfl he
      refine SemOk.same H ?_ h1
      simp only [Instr.typeAssert, Sem.run_bind, s_und hty, Result.andThen_ok]
      cases ty <;> first
        | (exact absurd rfl (hne _); done)
        | (simp only [if_neg hnt, if_true, Sem.run_bind, h2, Result.andThen_ok, Sem.run_pure]; done)
  · exact he.elim

theorem lenS_ok (H : HSat env w0 ρ h w) {t : TypeId} {ty : TypeId} {x r : SV} {v : Value} (hx : x.Rel env ρ v) (he : (lenS P t x).Run env h r h') :
    SemOk P env w0 ρ nm h' w (Builtin.len_ #[t] ty #[v]) r := by
  simp only [lenS, run_bind, run_und] at he
  obtain ⟨d, _, ⟨hd, rfl⟩, he⟩ := he
  split at he
  · rename_i s
    simp only [SV.Rel] at hx; subst hx
    simp only [run_pure] at he
    obtain ⟨rfl, rfl⟩ := he
    exact SemOk.same H (v := .int .i64 ((s.den env).S.size : Nat)) (by simp [Builtin.len_, s_und hd, goInt]) (by simp only [SV.Rel, mk1_den]; rfl)
  · rename_i n _
    simp only [run_pure] at he
    obtain ⟨rfl, rfl⟩ := he
    exact SemOk.same H (v := .int .i64 (n : Nat)) (by simp [Builtin.len_, s_und hd, goInt]) rfl
  · simp only [SV.Rel] at hx; subst hx
    simp only [run_pure] at he
    obtain ⟨rfl, rfl⟩ := he
    exact SemOk.same H (v := .int .i64 0) (by simp [Builtin.len_, s_und hd, goInt]) rfl
  · simp only [run_bind, run_vcE, leE_iff, I_il, run_pure] at he
    obtain ⟨_, _, ⟨h0, rfl⟩, rfl, rfl⟩ := he
    simp only [SV.Rel] at hx
    obtain ⟨p, A, hp, rfl, _⟩ := hx
    exact SemOk.same H (v := .int .i64 (((E.den env _).I.toNat : Nat) : Int)) (by simp [Builtin.len_, s_und hd, goInt]; rfl) (by simp only [SV.Rel]; congr 1; omega)
  · simp only [SV.Rel] at hx; subst hx
    simp only [run_pure] at he
    obtain ⟨rfl, rfl⟩ := he
    exact SemOk.same H (v := .int .i64 0) (by simp [Builtin.len_, s_und hd, goInt]) rfl
  · rename_i n
    simp only [run_bind, run_getN] at he
    obtain ⟨o, _, ⟨ho, rfl⟩, he⟩ := he
    split at he
    · rename_i m ix kk sz known
      simp only [run_pure] at he
      obtain ⟨rfl, rfl⟩ := he
      simp only [SV.Rel] at hx
      obtain ⟨p, hp, rfl⟩ := hx
      obtain ⟨q, es, clk, kv, h1, h2, h3, h4, h5, h6, h7, h8⟩ := H.objs n _ ho
      rw [hp] at h1; injection h1 with h1; subst h1
      exact SemOk.same H (v := .int .i64 (es.size : Nat)) (by simp [Builtin.len_, s_und hd, goInt, getObj, Sem.run, h5]) (by simp only [SV.Rel]; rw [h7])
    · exact he.elim
  · split at he
    · simp only [run_pure] at he
      obtain ⟨rfl, rfl⟩ := he
      simp only [SV.Rel, DK.Rel] at hx
      obtain ⟨A, cap, rfl, _⟩ := hx
      rename_i e _ _ _ _
      exact SemOk.same H (v := .int .i64 (((e.den env).T.length : Nat) : Int)) (by simp [Builtin.len_, s_und hd, goInt]) (by simp only [SV.Rel, mk1_den]; rfl)
    · exact he.elim
  · exact he.elim

end
end Go.Sx
