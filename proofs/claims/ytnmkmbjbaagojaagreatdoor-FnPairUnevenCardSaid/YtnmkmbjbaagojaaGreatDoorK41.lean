/- A part of the proof of laws.FnPairUneven. -/
import Derived.Test.YtnmkmbjbaagojaaGreatDoorK38
namespace Go.Proofs.YtnmkmbjbaagojaaGreatDoor
open Go
set_option maxRecDepth 100000
set_option linter.unusedVariables false
set_option linter.unusedSimpArgs false
/-! the loop of the pairing, in pieces -/
theorem rn4 (ca cb : Nat) : runXn C4 callM 427 200 1470 kMl (zipT tml4 (lml4 ca cb)) tml5 (mml4) 6184 [] = some (lml5 ca cb, .normal, kMl, mml5, rwM4.reverse) := by kernel_rfl
theorem rn5 (ca cb : Nat) : runXn C4 callM 427 200 400 kMl (zipT tml5 (lml5 ca cb)) tml6 (mml5) 7840 [] = some (lml6 ca cb, .ret, kMle, mml6, rwM5.reverse) := by kernel_rfl
end Go.Proofs.YtnmkmbjbaagojaaGreatDoor
