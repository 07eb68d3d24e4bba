/- A part of the proof of laws.FnPairUneven. -/
import Derived.Test.YtnmkmbjbaagojaaGreatDoorK34
namespace Go.Proofs.YtnmkmbjbaagojaaGreatDoor
open Go
set_option maxRecDepth 100000
set_option linter.unusedVariables false
set_option linter.unusedSimpArgs false
/-! pieces of a closed run -/
theorem cM0 : chunkOk rwM0 lM0 lM1 = true := by kernel_rfl
theorem cM1 : chunkOk rwM1 lM1 lM2 = true := by kernel_rfl
end Go.Proofs.YtnmkmbjbaagojaaGreatDoor
