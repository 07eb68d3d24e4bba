/- A part of the proof of laws.FnPairUneven. -/
import Derived.Test.YtnmkmbjbaagojaaGreatDoorK38
namespace Go.Proofs.YtnmkmbjbaagojaaGreatDoor
open Go
set_option maxRecDepth 100000
set_option linter.unusedVariables false
set_option linter.unusedSimpArgs false
/-! the loop of the pairing, in pieces -/
theorem rn2 (ca cb : Nat) : runXn C4 callM 427 200 1680 kMl (zipT tml2 (lml2 ca cb)) tml3 (mml2) 2332 [] = some (lml3 ca cb, .normal, kMl, mml3, rwM2.reverse) := by kernel_rfl
theorem rn3 (ca cb : Nat) : runXn C4 callM 427 200 1680 kMl (zipT tml3 (lml3 ca cb)) tml4 (mml3) 4258 [] = some (lml4 ca cb, .normal, kMl, mml4, rwM3.reverse) := by kernel_rfl
end Go.Proofs.YtnmkmbjbaagojaaGreatDoor
