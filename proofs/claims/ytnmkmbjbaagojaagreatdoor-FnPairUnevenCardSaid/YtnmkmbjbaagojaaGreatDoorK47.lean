/- A part of the proof of laws.FnPairUneven. -/
import Derived.Test.YtnmkmbjbaagojaaGreatDoorK46
namespace Go.Proofs.YtnmkmbjbaagojaaGreatDoor
open Go
set_option maxRecDepth 100000
set_option linter.unusedVariables false
set_option linter.unusedSimpArgs false
/-! the leaf of a closed run -/
theorem tF_chk : tF.chk (runK callK nFinal [.p vM, .v (.c (.lit (.slice none 0 0)))]) [] [] := PT.chk_of (by kernel_rfl)
theorem final_ok : KOK Tryz.prog nFinal [.p vM, .v (.c (.lit (.slice none 0 0)))] (.a (aggS vF)) :=
  kok_plain (fun _ => rfl) (kc_leafG callK_ok [.p vM, .v (.c (.lit (.slice none 0 0)))] (.a (aggS vF)) tF tF_chk tF_ok (by kernel_rfl) evF)
end Go.Proofs.YtnmkmbjbaagojaaGreatDoor
