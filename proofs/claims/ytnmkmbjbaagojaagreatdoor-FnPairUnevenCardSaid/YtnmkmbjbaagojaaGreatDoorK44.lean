/- A part of the proof of laws.FnPairUneven. -/
import Derived.Test.YtnmkmbjbaagojaaGreatDoorK43
namespace Go.Proofs.YtnmkmbjbaagojaaGreatDoor
open Go
set_option maxRecDepth 100000
set_option linter.unusedVariables false
set_option linter.unusedSimpArgs false
/-! pieces of a closed run -/
theorem cF0 : chunkOk rwF0 lF0 lF1 = true := by kernel_rfl
theorem cF1 : chunkOk rwF1 lF1 lF2 = true := by kernel_rfl
end Go.Proofs.YtnmkmbjbaagojaaGreatDoor
