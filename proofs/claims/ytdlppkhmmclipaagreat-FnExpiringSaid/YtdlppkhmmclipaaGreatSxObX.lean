/-
  THE LAW FnExpiring (proved): over every history of a store whose objects expire, each answer is the model's. No conditions beside the law's own guards.
-/
import Derived.Test.YtdlppkhmmclipaaGreatSxObI
import Derived.Test.YtdlppkhmmclipaaGreatSxMLoopH
import Derived.Test.YtdlppkhmmclipaaGreatRows
namespace Go.Proofs.YtdlppkhmmclipaaGreat.sxObj
open Go.Sx Go.RowKit Go.Proofs.YtdlppkhmmclipaaGreat
set_option linter.unusedVariables false
def fAwake : Nat := 20
def exX : Ctr := ⟨[(fZz35, z35F.funP), (fExOps, exF.funP), (fSmAll, saF.funP), (fAwake, shutP true)], [(fImEx, 5, imY.lpP), (fSpecEx, 4, spY.lpP)]⟩
def exKs : List PK := [.int .i64, .dsl exK]
end Go.Proofs.YtdlppkhmmclipaaGreat.sxObj
namespace Go.Proofs.YtdlppkhmmclipaaGreat.sxObj
open Go.Sx
set_option linter.unusedVariables false
abbrev ok0 : E := .o2 .lt (.v 0) (.il (-1099511627776))
abbrev ok1 : E := .uf 142 (.o2 .cel (.v 32) (.il 0))
abbrev ok2 : Facts := [((.o2 .le (.il (-9223372036854775808)) (.v 0)), true), ((.o2 .le (.v 0) (.il 9223372036854775807)), true), ((.o2 .le (.o1 .tlen (.v 32)) (.il 9223372036854775807)), true)]
abbrev ok3 : Facts := ((ok1, true) : E × Bool) :: ok2
abbrev ok4 : Facts := ((ok0, false) : E × Bool) :: ok3
abbrev ok5 : E := .uf 156 (.o2 .cel (.v 32) (.il 0))
abbrev ok6 : Facts := (((.o2 .lt (.il 1099511627776) (.v 0)), false) : E × Bool) :: ok4
abbrev ok7 : E := .uf 173 (.o2 .cel (.v 32) (.o2 .cel (.v 0) (.il 0)))
abbrev ok8 : E := .o2 .cel (.v 32) (.o2 .cel (.v 0) (.o2 .cel (.il 0) (.il 0)))
def lawL : List (Facts × List Ob) :=
  [((((ok0, true) : E × Bool) :: ok3),
    [(.e (.bl true))]),
   (((((.o2 .lt (.il 1099511627776) (.v 0)), true) : E × Bool) :: ok4),
    [(.e (.bl true))]),
   ((((ok5, true) : E × Bool) :: ok6),
    [(.e (.bl true)), (.e (.uf 132 (.o2 .cel ok7 (.il 0)))), (.e (.o2 .le (.o1 .tlen ok7) (.il 2147483647))), (.e (.o2 .ieq (.il 0) (.uf 170 ok8))), (.t (.il 0) (.uf 172 ok8)), (.e (.o2 .le (.o1 .tlen (.v 32)) (.il 400))), (.e (.uf 174 (.o2 .cel (.v 32) (.il 0)))), (.e (.o2 .seq (.sl []) (.uf 216 ok8))), (.t (.il 0) (.uf 215 ok8)), (.e (.o2 .ieq (.il 0) (.uf 170 ok8))), (.e (.o2 .le (.o1 .tlen (.v 32)) (.il 400))), (.e (.uf 174 (.o2 .cel (.v 32) (.il 0))))]),
   ((((ok5, false) : E × Bool) :: ok6),
    [(.e (.bl true))]),
   ((((ok1, false) : E × Bool) :: ok2),
    [(.e (.bl true))])]
end Go.Proofs.YtdlppkhmmclipaaGreat.sxObj
namespace Go.Proofs.YtdlppkhmmclipaaGreat.sxObj
open Go.Sx Go.RowKit Go.Proofs.YtdlppkhmmclipaaGreat
set_option linter.unusedVariables false
set_option linter.unusedSimpArgs false
set_option maxRecDepth 100000
theorem st_good {s : Sp} {n : Nat} {ttl : Int} {p : Row} (h : SpIn s n) (hn : n <= 400) : stGood (spStep ttl p s).2 := by
  have hl := h.l; have none : ∀ {e : Int} {b : Bool}, stGood (ansRow e b [] []) := fun {e b} => ⟨okRows_nil, Nat.zero_le _, Nat.zero_le _⟩
  have some : ∀ {only : Dv} {all b : Bool}, stGood (ansRow 0 b (alOutT (.t s.S) (.t s.M) s.now ttl only all) []) := fun {only all b} => ⟨fun r hr => h.k r (alOut_mem hr), by
    show (alOutT _ _ _ _ _ _).length <= _; have : (alOutT (.t s.S) (.t s.M) s.now ttl only all).length <= s.S.length := by rw [alOut_eq]; exact List.length_filter_le _ _
    omega, Nat.zero_le _⟩
  unfold spStep; split
  . exact none
  split
  . exact none
  split
  . exact none
  split
  . split <;> exact none
  split
  . exact some
  split
  . exact some
  split
  . refine ⟨okRows_nil, Nat.zero_le _, ?_⟩; show (s.S.map keyRow).length <= _; rw [List.length_map]; omega
  split <;> exact none
theorem ans_good {ops : Dv} {ttl : Int} (h1 : fits35 ops) (h2 : exFine ops) : ∀ r ∈ spAnsT ops ttl, stGood r := fun r hr => by
  obtain ⟨n, hn, rfl⟩ := List.mem_map.1 hr; have hn := List.mem_range.1 hn; exact st_good (sp_in (ttl := ttl) (fun n hn => op_in h1 h2 hn) h2.2 n (by omega)) (by have := h2.2; omega)
section
variable {o : Env}
theorem lawW_all (hu : OU o) (hv : OV o) : AllL o lawL := by
  simp only [lawL, allL_cons, allL_nil, and_true]
  and_intros
  all_goals intro h
  all_goals simp only [SS, implies_true, hu.u132, hu.u142, hu.u156, hu.u170, hu.u172, hu.u173, hu.u174, hv.u215, hv.u216, dec_iff, dec_no, Classical.not_not] at h ⊢
  obtain ⟨h1, h2, h3, h4, h5, h6⟩ := h; have hf := fine_of h1; have hl := hf.2; refine ⟨ans_good h4 hf, ?_, rfl, rfl, by omega, hf, rfl, rfl, rfl, by omega, hf⟩
  rw [ans_len]; omega
end
noncomputable def ZU (c : Nat) (d : Dv) : Dv := if c < 200 then objUF c d else exUF c d
theorem zu_u {o : Env} (h : o.uf = ZU) : OU o := fun c d h1 h2 => by rw [h]; exact if_pos h2
theorem zu_v {o : Env} (h : o.uf = ZU) : OV o := fun c d h1 h2 => by rw [h]; exact if_neg (by omega)
theorem awake_says : shutB Tryz.prog fAwake 1000 80 true = true := by kernel_rfl
theorem lawW_obl : lawObl Tryz.prog exX.x 5 exKs 80 = some lawL := by kernel_rfl
theorem exX_ok {o : Env} (h : o.uf = ZU) (A : Anchor) : ExtOk Tryz.prog o A (exX.x.toExt Tryz.prog) :=
  ctr_ok (c := exX) (by kernel_rfl) ⟨z35F_ok (zu_u h), exF_ok (zu_u h), saF_ok (zu_u h), shut_ok plain mixed awake_says, trivial⟩ ⟨imY_ok (zu_u h) (zu_v h), spY_ok (zu_u h), trivial⟩ A
theorem own : ownKnob Tryz.prog.godebug = none := by kernel_rfl
theorem laid : laidOutB Tryz.prog = true := by kernel_rfl
theorem exw_contract (H : Type) (enc : TypeId × Value -> H) (W : World) (base : Nat) (args : Array Value) (ds gs : List (DataW H)) (before : List MemPlace)
    (hval : ∀ (j : Nat) t v, Tryz.f5.params[j]? = some t -> args[j]? = some v -> Value.okWide Tryz.prog W .any base t v)
    (hW : DataW.Whole enc Tryz.prog Tryz.f5.params.toList Rows.fnExpiringSpec.vars false W args.toList ds gs before) :
    Calls Tryz.prog 5 args W fun e W' => ∃ v, e = .returned v /\ Rows.fnExpiringSpec.post enc Tryz.prog Tryz.f5 false true false false W args v W' :=
  law_contract laid (ks := exKs) (tb := 4) (by kernel_rfl) (by kernel_rfl) (by kernel_rfl) (by kernel_rfl) rfl
    (fun ds hd => by
      match ds, hd with
      | [d, e], _ => rfl) (fun vs hl hall => law_walk plain mixed (by decide) lawW_obl (fun o A hu => exX_ok hu A) (fun o hu => lawW_all (zu_u hu) (zu_v hu)) W vs hl hall) hval hW
theorem exw_lifted (os : Os) (started : os.Started) (H : Type) (enc : TypeId × Value -> H) :
    ReturnsInHanded {} Tryz.checked os 5 .any (Rows.fnExpiringSpec.pre6 enc Tryz.prog Tryz.f5 Rows.fnExpiringRow.domain false) (Rows.fnExpiringSpec.post enc Tryz.prog Tryz.f5 false true false false) := by
  refine returnsInHanded_of_change (C := Tryz.checked) (s := Rows.fnExpiringSpec) own started (by kernel_rfl) Tryz.func5
    (ChangeSpec.witness6 (enc := enc) (C := Tryz.checked) false ⟨#[], #[.int .i64 0, .slice none 0 0], []⟩ 8 (by kernel_rfl) (by kernel_rfl) (by kernel_rfl) (by kernel_rfl)) ?_
  intro W base args ds gs before hval hW _ _; exact exw_contract H enc W base args ds gs before hval hW
theorem exwProved : Rows.FnExpiringSaid :=
  OpenClaim.holds_of_wide 5 Tryz.f5 rfl rfl rfl rfl rfl rfl rfl ⟨rfl, rfl, rfl, rfl, rfl⟩ rfl rfl rfl rfl rfl (by kernel_rfl) Tryz.func5 (by kernel_rfl)
    (of_decide_eq_true (by kernel_rfl)) (by unfold Func.isWrapper; first | (rw [if_pos (by decide +kernel)]; kernel_rfl) | (rw [if_neg (by decide +kernel)]; exact ⟨rfl, rfl⟩))
    (fun os started H enc _ => exw_lifted os started H enc)
end Go.Proofs.YtdlppkhmmclipaaGreat.sxObj

