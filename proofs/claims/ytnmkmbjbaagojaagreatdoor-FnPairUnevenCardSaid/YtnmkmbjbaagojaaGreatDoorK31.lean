/- A part of the proof of laws.FnPairUneven. -/
import Derived.Test.YtnmkmbjbaagojaaGreatDoorK30
namespace Go.Proofs.YtnmkmbjbaagojaaGreatDoor
open Go
set_option maxRecDepth 100000
set_option linter.unusedVariables false
set_option linter.unusedSimpArgs false
theorem goX_ret {P : Program} {Q : Exit → Act → World → Prop} {r : List Px} {a : Act} {w : World} (h : Q .ret a w) : goX P Q .ret r a w := h
theorem naf_ok : KSem Tryz.prog 58 vN mN0 mN7 rN := by
  intro S w0 V B w us hw hu
  refine calls_body C5_ok (f := 58) (fn := Tryz.f58) (c := nfBody) rfl rfl (by decide) hu fun a0 ha0 => ?_
  refine runXm_sound C5_ok mixed callN5_ok pN0 _ a0 w ha0 hw _ fun X0 a1 w1 ha1 hw1 => ?_
  refine runXm_sound C5_ok mixed callN5_ok pN1 _ a1 w1 ha1 hw1 _ fun X1 a2 w2 ha2 hw2 => ?_
  refine runXm_sound C5_ok mixed callN5_ok pN2 _ a2 w2 ha2 hw2 _ fun X2 a3 w3 ha3 hw3 => ?_
  refine runXm_sound C5_ok mixed callN5_ok pN3 _ a3 w3 ha3 hw3 _ fun X3 a4 w4 ha4 hw4 => ?_
  refine runXm_sound C5_ok mixed callN5_ok pN4 _ a4 w4 ha4 hw4 _ fun X4 a5 w5 ha5 hw5 => ?_
  refine runXm_sound C5_ok mixed callN5_ok pN5 _ a5 w5 ha5 hw5 _ fun X5 a6 w6 ha6 hw6 => ?_
  refine runXm_sound C5_ok mixed callN5_ok pN6 _ a6 w6 ha6 hw6 _ fun X6 a7 w7 ha7 hw7 => ?_
  refine goX_ret (P := Tryz.prog) (body_ret C5_ok pNr ha7 hw7 fun u hu => ?_)
  exact ⟨u, X0 ++ (X1 ++ (X2 ++ (X3 ++ (X4 ++ (X5 ++ (X6)))))), rfl, by simpa only [List.append_assoc] using hw7, by simpa only [List.append_assoc] using hu⟩
end Go.Proofs.YtnmkmbjbaagojaaGreatDoor
