/-
  THE LAW FnRetryingWhole: its loops are as printed.
-/
import Derived.Test.YtckdphmpafopmaaSxRtP
import Derived.Test.YtckdphmpafopmaaSxRtI
import Derived.Test.YtckdphmpafopmaaSxMLoopH
namespace Go.Proofs.Ytckdphmpafopmaa.sxRetrying
open Go.Sx Go.RowKit
set_option linter.unusedVariables false
set_option linter.unusedSimpArgs false
set_option maxRecDepth 100000

theorem fits18_obl : fits18.obl Try.prog 0 = some fits18L0 := by kernel_rfl
theorem nuY_obl : nuY.obl Try.prog 0 = some nuYL0 := by kernel_rfl
theorem fK_obl0 : fK.obl Try.prog 0 = some fKL0 := by kernel_rfl
theorem fK_obl1 : fK.obl Try.prog 1 = some fKL1 := by kernel_rfl
theorem hK_obl : hK.obl Try.prog 0 = some hKL0 := by kernel_rfl
theorem iK_obl : iK.obl Try.prog 0 = some iKL0 := by kernel_rfl
theorem jK_obl : jK.obl Try.prog 0 = some jKL0 := by kernel_rfl
theorem kK_obl0 : kK.obl Try.prog 0 = some kKL0 := by kernel_rfl
theorem kK_obl1 : kK.obl Try.prog 1 = some kKL1 := by kernel_rfl
theorem aK_obl0 : aK.obl Try.prog 0 = some aKL0 := by kernel_rfl
theorem aK_obl1 : aK.obl Try.prog 1 = some aKL1 := by kernel_rfl
theorem tlY_obl : tlY.obl Try.prog 0 = some tlYL0 := by kernel_rfl
end Go.Proofs.Ytckdphmpafopmaa.sxRetrying
