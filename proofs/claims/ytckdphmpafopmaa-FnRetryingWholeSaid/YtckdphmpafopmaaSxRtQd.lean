/-
  THE LAW FnRetryingWhole: its loops are as printed.
-/
import Derived.Test.YtckdphmpafopmaaSxRtP
import Derived.Test.YtckdphmpafopmaaSxRtI
import Derived.Test.YtckdphmpafopmaaSxMLoopH
namespace Go.Proofs.Ytckdphmpafopmaa.sxRetrying
open Go.Sx Go.RowKit
set_option linter.unusedVariables false
set_option linter.unusedSimpArgs false
set_option maxRecDepth 100000

theorem wK_obl0 : wK.obl Try.prog 0 = some wKL0 := by kernel_rfl
theorem wK_c1_0 : wK.oblC Try.prog 1 0 6 = some ((wKL1.drop 0).take 6) := by kernel_rfl
theorem wK_c1_6 : wK.oblC Try.prog 1 6 6 = some ((wKL1.drop 6).take 6) := by kernel_rfl
theorem wK_c1_12 : wK.oblC Try.prog 1 12 6 = some ((wKL1.drop 12).take 6) := by kernel_rfl
theorem wK_c1_18 : wK.oblC Try.prog 1 18 6 = some ((wKL1.drop 18).take 6) := by kernel_rfl
theorem wK_c1_24 : wK.oblC Try.prog 1 24 6 = some ((wKL1.drop 24).take 6) := by kernel_rfl
theorem wK_c1_30 : wK.oblC Try.prog 1 30 6 = some ((wKL1.drop 30).take 6) := by kernel_rfl
theorem wK_e1 : wK.oblE Try.prog 1 36 = some (wKL1.drop 36) := by kernel_rfl
theorem wK_obl1 : wK.obl Try.prog 1 = some wKL1 := LoopY.obl_of (by kernel_rfl) (LoopY.obl_step wK_c1_0 rfl (LoopY.obl_step wK_c1_6 rfl (LoopY.obl_step wK_c1_12 rfl (LoopY.obl_step wK_c1_18 rfl (LoopY.obl_step wK_c1_24 rfl (LoopY.obl_step wK_c1_30 rfl wK_e1))))))
end Go.Proofs.Ytckdphmpafopmaa.sxRetrying
