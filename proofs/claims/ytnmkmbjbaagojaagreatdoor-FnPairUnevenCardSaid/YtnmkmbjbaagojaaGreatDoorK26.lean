/- A part of the proof of laws.FnPairUneven. -/
import Derived.Test.YtnmkmbjbaagojaaGreatDoorK25
namespace Go.Proofs.YtnmkmbjbaagojaaGreatDoor
open Go
set_option maxRecDepth 100000
set_option linter.unusedVariables false
set_option linter.unusedSimpArgs false
/-! the leaves of the great tower, and of the lines -/
noncomputable def call3 : CallF := callS C2 lo0 pr3 40 12
theorem call3_ok : CallOK Tryz.prog FD call3 := callS_ok C2_ok mixed lo0_ok (prims_ok (l := pr3) pr3_ok (by kernel_rfl)) 40 12
theorem e12Mul_ok : PrimOK Tryz.prog FD n_e12Mul (.g d_e12Mul) := g_leaf call3_ok (F := ef1) 200 (fun _ xs h => (efF_one h xs).symm) (fun xs => efF_l2 (by decide) xs) (ne' := 206) (by kernel_rfl) (by kernel_rfl) (by kernel_rfl)
theorem e12Square_ok : PrimOK Tryz.prog FD n_e12Square (.g d_e12Square) := g_leaf call3_ok (F := ef1) 200 (fun _ xs h => (efF_one h xs).symm) (fun xs => efF_l2 (by decide) xs) (ne' := 156) (by kernel_rfl) (by kernel_rfl) (by kernel_rfl)
theorem e12Cyc_ok : PrimOK Tryz.prog FD n_e12Cyc (.g d_e12Cyc) := g_leaf call3_ok (F := ef1) 200 (fun _ xs h => (efF_one h xs).symm) (fun xs => efF_l2 (by decide) xs) (ne' := 110) (by kernel_rfl) (by kernel_rfl) (by kernel_rfl)
theorem e12Inv_ok : PrimOK Tryz.prog FD n_e12Inv (.g d_e12Inv) := g_leaf call3_ok (F := ef1) 200 (fun _ xs h => (efF_one h xs).symm) (fun xs => efF_l2 (by decide) xs) (ne' := 242) (by kernel_rfl) (by kernel_rfl) (by kernel_rfl)
theorem e12Conj_ok : PrimOK Tryz.prog FD n_e12Conj (.g d_e12Conj) := g_leaf call3_ok (F := ef1) 200 (fun _ xs h => (efF_one h xs).symm) (fun xs => efF_l2 (by decide) xs) (ne' := 30) (by kernel_rfl) (by kernel_rfl) (by kernel_rfl)
theorem e12F1_ok : PrimOK Tryz.prog FD n_e12F1 (.g d_e12F1) := g_leaf call3_ok (F := ef1) 200 (fun _ xs h => (efF_one h xs).symm) (fun xs => efF_l2 (by decide) xs) (ne' := 46) (by kernel_rfl) (by kernel_rfl) (by kernel_rfl)
theorem e12F2_ok : PrimOK Tryz.prog FD n_e12F2 (.g d_e12F2) := g_leaf call3_ok (F := ef1) 200 (fun _ xs h => (efF_one h xs).symm) (fun xs => efF_l2 (by decide) xs) (ne' := 34) (by kernel_rfl) (by kernel_rfl) (by kernel_rfl)
theorem e12F3_ok : PrimOK Tryz.prog FD n_e12F3 (.g d_e12F3) := g_leaf call3_ok (F := ef1) 200 (fun _ xs h => (efF_one h xs).symm) (fun xs => efF_l2 (by decide) xs) (ne' := 46) (by kernel_rfl) (by kernel_rfl) (by kernel_rfl)
theorem e12M034_ok : PrimOK Tryz.prog FD n_e12M034 (.g d_e12M034) := g_leaf call3_ok (F := ef1) 200 (fun _ xs h => (efF_one h xs).symm) (fun xs => efF_l2 (by decide) xs) (ne' := 122) (by kernel_rfl) (by kernel_rfl) (by kernel_rfl)
theorem e12M01234_ok : PrimOK Tryz.prog FD n_e12M01234 (.g d_e12M01234) := g_leaf call3_ok (F := ef1) 200 (fun _ xs h => (efF_one h xs).symm) (fun xs => efF_l2 (by decide) xs) (ne' := 178) (by kernel_rfl) (by kernel_rfl) (by kernel_rfl)
theorem m034_ok : PrimOK Tryz.prog FD n_m034 (.g d_m034) := g_leaf call3_ok (F := ef1) 200 (fun _ xs h => (efF_one h xs).symm) (fun xs => efF_l2 (by decide) xs) (ne' := 52) (by kernel_rfl) (by kernel_rfl) (by kernel_rfl)
theorem dblStep_ok : PrimOK Tryz.prog FD n_dblStep (.g d_dblStep) := g_leaf call3_ok (F := ef1) 200 (fun _ xs h => (efF_one h xs).symm) (fun xs => efF_l2 (by decide) xs) (ne' := 68) (by kernel_rfl) (by kernel_rfl) (by kernel_rfl)
theorem addStep_ok : PrimOK Tryz.prog FD n_addStep (.g d_addStep) := g_leaf call3_ok (F := ef1) 200 (fun _ xs h => (efF_one h xs).symm) (fun xs => efF_l2 (by decide) xs) (ne' := 60) (by kernel_rfl) (by kernel_rfl) (by kernel_rfl)
theorem lineStep_ok : PrimOK Tryz.prog FD n_lineStep (.g d_lineStep) := g_leaf call3_ok (F := ef1) 200 (fun _ xs h => (efF_one h xs).symm) (fun xs => efF_l2 (by decide) xs) (ne' := 32) (by kernel_rfl) (by kernel_rfl) (by kernel_rfl)
def pr4 : List (Nat × PrimS) := [(n_e12Mul, .g d_e12Mul), (n_e12Square, .g d_e12Square), (n_e12Cyc, .g d_e12Cyc), (n_e12Inv, .g d_e12Inv), (n_e12Conj, .g d_e12Conj), (n_e12F1, .g d_e12F1), (n_e12F2, .g d_e12F2), (n_e12F3, .g d_e12F3), (n_e12M034, .g d_e12M034), (n_e12M01234, .g d_e12M01234), (n_m034, .g d_m034), (n_dblStep, .g d_dblStep), (n_addStep, .g d_addStep), (n_lineStep, .g d_lineStep)] ++ pr3
theorem pr4_ok : PrimsOK Tryz.prog pr4 := ⟨e12Mul_ok, e12Square_ok, e12Cyc_ok, e12Inv_ok, e12Conj_ok, e12F1_ok, e12F2_ok, e12F3_ok, e12M034_ok, e12M01234_ok, m034_ok, dblStep_ok, addStep_ok, lineStep_ok, pr3_ok⟩
end Go.Proofs.YtnmkmbjbaagojaaGreatDoor
