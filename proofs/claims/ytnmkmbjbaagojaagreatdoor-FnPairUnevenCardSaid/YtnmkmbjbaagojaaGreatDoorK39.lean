/- A part of the proof of laws.FnPairUneven. -/
import Derived.Test.YtnmkmbjbaagojaaGreatDoorK38
namespace Go.Proofs.YtnmkmbjbaagojaaGreatDoor
open Go
set_option maxRecDepth 100000
set_option linter.unusedVariables false
set_option linter.unusedSimpArgs false
/-! the loop of the pairing, in pieces -/
theorem rn0 (ca cb : Nat) : runXn C4 callM 427 200 466 [.c mlBody] (argsT 0 (argK 0 (asM ca cb))) tml1 (memK (asM 0 0)) 0 [false, false, false, false, false, false, false, false, false] = some (lml1 ca cb, .normal, kMl, mml1, rwM0.reverse) := by kernel_rfl
theorem rn1 (ca cb : Nat) : runXn C4 callM 427 200 1680 kMl (zipT tml1 (lml1 ca cb)) tml2 (mml1) 328 [] = some (lml2 ca cb, .normal, kMl, mml2, rwM1.reverse) := by kernel_rfl
end Go.Proofs.YtnmkmbjbaagojaaGreatDoor
