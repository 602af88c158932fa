/-
  THE LAW FnRetryingWhole: its loops are as printed.
-/
import Derived.Test.YtckdphmpafopmaaSxRtP
import Derived.Test.YtckdphmpafopmaaSxRtI
import Derived.Test.YtckdphmpafopmaaSxMLoopH
namespace Go.Proofs.Ytckdphmpafopmaa.sxRetrying
open Go.Sx Go.RowKit
set_option linter.unusedVariables false
set_option linter.unusedSimpArgs false
set_option maxRecDepth 100000

theorem obY_c1_0 : obY.oblC Try.prog 1 0 5 = some ((obYL1.drop 0).take 5) := by kernel_rfl
theorem obY_c1_5 : obY.oblC Try.prog 1 5 5 = some ((obYL1.drop 5).take 5) := by kernel_rfl
theorem obY_c1_10 : obY.oblC Try.prog 1 10 5 = some ((obYL1.drop 10).take 5) := by kernel_rfl
theorem obY_c1_15 : obY.oblC Try.prog 1 15 5 = some ((obYL1.drop 15).take 5) := by kernel_rfl
theorem obY_e1 : obY.oblE Try.prog 1 20 = some (obYL1.drop 20) := by kernel_rfl
theorem obY_obl1 : obY.obl Try.prog 1 = some obYL1 := LoopY.obl_of (by kernel_rfl) (LoopY.obl_step obY_c1_0 rfl (LoopY.obl_step obY_c1_5 rfl (LoopY.obl_step obY_c1_10 rfl (LoopY.obl_step obY_c1_15 rfl obY_e1))))
end Go.Proofs.Ytckdphmpafopmaa.sxRetrying
