/-
  THE LAW FnRetryingWhole: its loops are as printed.
-/
import Derived.Test.YtckdphmpafopmaaSxRtP
import Derived.Test.YtckdphmpafopmaaSxRtI
import Derived.Test.YtckdphmpafopmaaSxMLoopH
namespace Go.Proofs.Ytckdphmpafopmaa.sxRetrying
open Go.Sx Go.RowKit
set_option linter.unusedVariables false
set_option linter.unusedSimpArgs false
set_option maxRecDepth 100000

theorem obY_c0_0 : obY.oblC Try.prog 0 0 6 = some ((obYL0.drop 0).take 6) := by kernel_rfl
theorem obY_c0_6 : obY.oblC Try.prog 0 6 6 = some ((obYL0.drop 6).take 6) := by kernel_rfl
theorem obY_c0_12 : obY.oblC Try.prog 0 12 6 = some ((obYL0.drop 12).take 6) := by kernel_rfl
theorem obY_c0_18 : obY.oblC Try.prog 0 18 6 = some ((obYL0.drop 18).take 6) := by kernel_rfl
theorem obY_c0_24 : obY.oblC Try.prog 0 24 6 = some ((obYL0.drop 24).take 6) := by kernel_rfl
theorem obY_c0_30 : obY.oblC Try.prog 0 30 6 = some ((obYL0.drop 30).take 6) := by kernel_rfl
theorem obY_e0 : obY.oblE Try.prog 0 36 = some (obYL0.drop 36) := by kernel_rfl
theorem obY_obl0 : obY.obl Try.prog 0 = some obYL0 := LoopY.obl_of (by kernel_rfl) (LoopY.obl_step obY_c0_0 rfl (LoopY.obl_step obY_c0_6 rfl (LoopY.obl_step obY_c0_12 rfl (LoopY.obl_step obY_c0_18 rfl (LoopY.obl_step obY_c0_24 rfl (LoopY.obl_step obY_c0_30 rfl obY_e0))))))
end Go.Proofs.Ytckdphmpafopmaa.sxRetrying
