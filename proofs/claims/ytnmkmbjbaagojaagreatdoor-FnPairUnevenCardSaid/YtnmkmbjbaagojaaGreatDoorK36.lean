/- A part of the proof of laws.FnPairUneven. -/
import Derived.Test.YtnmkmbjbaagojaaGreatDoorK34
namespace Go.Proofs.YtnmkmbjbaagojaaGreatDoor
open Go
set_option maxRecDepth 100000
set_option linter.unusedVariables false
set_option linter.unusedSimpArgs false
/-! pieces of a closed run -/
theorem cM2 : chunkOk rwM2 lM2 lM3 = true := by kernel_rfl
theorem cM3 : chunkOk rwM3 lM3 lM4 = true := by kernel_rfl
end Go.Proofs.YtnmkmbjbaagojaaGreatDoor
