/- A part of the proof of laws.FnPairUneven. -/
import Derived.Test.YtnmkmbjbaagojaaGreatDoorK43
namespace Go.Proofs.YtnmkmbjbaagojaaGreatDoor
open Go
set_option maxRecDepth 100000
set_option linter.unusedVariables false
set_option linter.unusedSimpArgs false
/-! pieces of a closed run -/
theorem cF2 : chunkOk rwF2 lF2 lF3 = true := by kernel_rfl
theorem cF3 : chunkOk rwF3 lF3 lF4 = true := by kernel_rfl
end Go.Proofs.YtnmkmbjbaagojaaGreatDoor
