/- A part of the proof of laws.FnPairUneven. -/
import Derived.Test.YtnmkmbjbaagojaaGreatDoorK34
namespace Go.Proofs.YtnmkmbjbaagojaaGreatDoor
open Go
set_option maxRecDepth 100000
set_option linter.unusedVariables false
set_option linter.unusedSimpArgs false
/-! pieces of a closed run -/
theorem cM4 : chunkOk rwM4 lM4 lM5 = true := by kernel_rfl
theorem cM5 : chunkOk rwM5 lM5 lM6 = true := by kernel_rfl
end Go.Proofs.YtnmkmbjbaagojaaGreatDoor
