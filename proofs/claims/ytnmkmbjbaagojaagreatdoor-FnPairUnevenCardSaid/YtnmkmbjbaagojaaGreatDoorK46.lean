/- A part of the proof of laws.FnPairUneven. -/
import Derived.Test.YtnmkmbjbaagojaaGreatDoorK44
import Derived.Test.YtnmkmbjbaagojaaGreatDoorK45
namespace Go.Proofs.YtnmkmbjbaagojaaGreatDoor
open Go
set_option maxRecDepth 100000
set_option linter.unusedVariables false
set_option linter.unusedSimpArgs false
/-! a closed run aas a whole -/
theorem evF (V : VE FD) (K : Mem → SV → Prop) (hp : tF.post V K) : ∃ m v, K m v ∧ ∀ (B : Bs) (u : Value), v.is V B u → ∀ (V' : VE FD) (B' : Bs), SV.is V' B' (.a (aggS vF)) u := by
  have h0 : OkL V lF0 := trivial
  have p0 : (ptL rwF (.done [] 3252 0 vFs)).post V K := hp
  obtain ⟨h1, p1⟩ := chunk_ok cF0 h0 p0
  obtain ⟨h2, p2⟩ := chunk_ok cF1 h1 p1
  obtain ⟨h3, p3⟩ := chunk_ok cF2 h2 p2
  obtain ⟨h4, p4⟩ := chunk_ok cF3 h3 p3
  obtain ⟨q1, q2⟩ := chunk_end (res := .a (aggS vF)) h4 p4 (by kernel_rfl)
  exact ⟨_, _, q1, q2⟩
end Go.Proofs.YtnmkmbjbaagojaaGreatDoor
