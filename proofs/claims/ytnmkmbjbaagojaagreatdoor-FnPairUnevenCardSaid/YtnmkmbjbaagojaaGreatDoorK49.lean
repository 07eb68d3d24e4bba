/- A part of the proof of laws.FnPairUneven. -/
import Derived.Test.YtnmkmbjbaagojaaGreatDoorK42
import Derived.Test.YtnmkmbjbaagojaaGreatDoorK47
import Derived.Test.YtnmkmbjbaagojaaGreatDoorK48
import Derived.Test.YtnmkmbjbaagojaaGreatDoorK33
namespace Go.Proofs.YtnmkmbjbaagojaaGreatDoor
open Go
set_option maxRecDepth 100000
set_option linter.unusedVariables false
set_option linter.unusedSimpArgs false
/-! the pairing of three points -/
def prN : List (Nat × PrimS) := [(nMiller, .kc [([gK, .s vA3 3 3, .s vB3 3 3], .tup [aggS vM, .c (.lit .nilIface)])]), (nFinal, .kc [([.p vM, .v (.c (.lit (.slice none 0 0)))], .a (aggS vF))])]
theorem prN_ok : PrimsOK Tryz.prog prN := ⟨kc_all ⟨miller_ok, trivial⟩, kc_all ⟨final_ok, trivial⟩, trivial⟩
noncomputable def callN : CallF := callS C4 lo0 prN 200 20
theorem callN_ok : CallOK Tryz.prog FD callN := callS_ok C4_ok mixed lo0_ok (prims_ok (l := prN) prN_ok (by kernel_rfl)) 200 20
theorem bnPair_ok : KOK Tryz.prog nBnPair [gK, .s vA3 3 3, .s vB3 3 3] (.tup [aggS vF, .c (.lit .nilIface)]) :=
  kok_two fun ca cb => kc_leaf callN_ok [gK, .s vA3 3 ca, .s vB3 3 cb] (.tup [aggS vF, .c (.lit .nilIface)]) (.done [] 0 0 (.tup [aggS vF, .c (.lit .nilIface)])) (PT.chk_of (by kernel_rfl)) (by kernel_rfl) (by kernel_rfl) (by kernel_rfl)
/-! impl.Pair of three points on each side -/
def prG : List (Nat × PrimS) := [(nBnPair, .kc [([gK, .s vA3 3 3, .s vB3 3 3], .tup [aggS vF, .c (.lit .nilIface)])]), (nTold12, .kc [([.v (aggS vF)], .a (aggS vT))])]
theorem prG_ok : PrimsOK Tryz.prog prG := ⟨kc_all ⟨bnPair_ok, trivial⟩, kc_all ⟨told12_ok, trivial⟩, trivial⟩
noncomputable def callG : CallF := callS C4 lo0 prG 200 20
theorem callG_ok : CallOK Tryz.prog FD callG := callS_ok C4_ok mixed lo0_ok (prims_ok (l := prG) prG_ok (by kernel_rfl)) 200 20
noncomputable def kP33 : List Px := restOf (runX C4 callG 32 200 100 kP (tP2 3 3 3 3) [4, 5] (mP2 3 3) 4)
theorem run33 (ca cb : Nat) : runX C4 callG 32 200 100 kP (tP2 3 3 ca cb) [4, 5] (mP2 3 3) 4 = some ([.c (.ptr 4 0), litB true], .ret, kP33, vT.map SC.lit, []) := by kernel_rfl
theorem ok_res : resList C4 (mkT [(4, aC (.ptr 0 0)), (5, .a (litB true))]) ⟨[(false, vT.map SC.lit)], 0, 0, [], []⟩ Tryz.f6.results.toList = some (.tup [aggS vT, litB true]) := by kernel_rfl
theorem ok_cl : svEq .e .e (.tup [aggS vT, litB true]) (.tup [aggS vT, litB true]) = true := by kernel_rfl
theorem pair_taken : KOK Tryz.prog 6 (asP 3 3 3 3) (.tup [aggS vT, litB true]) := pair_lists (by decide) (by decide) ok_res ok_cl callG_ok run33
end Go.Proofs.YtnmkmbjbaagojaaGreatDoor
