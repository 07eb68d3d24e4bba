/- A part of the proof of laws.FnPairUneven. -/
import Derived.Test.YtnmkmbjbaagojaaGreatDoorK24
namespace Go.Proofs.YtnmkmbjbaagojaaGreatDoor
open Go
set_option maxRecDepth 100000
set_option linter.unusedVariables false
set_option linter.unusedSimpArgs false
/-! the leaves of the quadratic extension of this program -/
noncomputable def cTy2 : List (Nat × TyI) := [(96, ⟨1, false, [.pointer none], [], none, none, 4, none, some 8, true, []⟩),
 (50, ⟨8, true, [.int .u64 0, .int .u64 0, .int .u64 0, .int .u64 0, .int .u64 0, .int .u64 0, .int .u64 0, .int .u64 0], [some (0, 4), some (4, 4)], none, none, 7, none, none, true, []⟩),
 (52, ⟨24, true, [.int .u64 0, .int .u64 0, .int .u64 0, .int .u64 0, .int .u64 0, .int .u64 0, .int .u64 0, .int .u64 0, .int .u64 0, .int .u64 0, .int .u64 0, .int .u64 0, .int .u64 0, .int .u64 0, .int .u64 0, .int .u64 0, .int .u64 0, .int .u64 0, .int .u64 0, .int .u64 0, .int .u64 0, .int .u64 0, .int .u64 0, .int .u64 0], [some (0, 8), some (8, 8), some (16, 8)], none, none, 7, none, none, true, []⟩),
 (54, ⟨48, true, [.int .u64 0, .int .u64 0, .int .u64 0, .int .u64 0, .int .u64 0, .int .u64 0, .int .u64 0, .int .u64 0, .int .u64 0, .int .u64 0, .int .u64 0, .int .u64 0, .int .u64 0, .int .u64 0, .int .u64 0, .int .u64 0, .int .u64 0, .int .u64 0, .int .u64 0, .int .u64 0, .int .u64 0, .int .u64 0, .int .u64 0, .int .u64 0, .int .u64 0, .int .u64 0, .int .u64 0, .int .u64 0, .int .u64 0, .int .u64 0, .int .u64 0, .int .u64 0, .int .u64 0, .int .u64 0, .int .u64 0, .int .u64 0, .int .u64 0, .int .u64 0, .int .u64 0, .int .u64 0, .int .u64 0, .int .u64 0, .int .u64 0, .int .u64 0, .int .u64 0, .int .u64 0, .int .u64 0, .int .u64 0], [some (0, 24), some (24, 24)], none, none, 7, none, none, true, []⟩),
 (48, ⟨4, true, [.int .u64 0, .int .u64 0, .int .u64 0, .int .u64 0], [], some (4, 1), none, 8, none, none, true, []⟩),
 (98, ⟨1, false, [.pointer none], [], none, none, 4, none, some 4, true, []⟩),
 (112, ⟨1, false, [.pointer none], [], none, none, 4, none, some 24, true, []⟩),
 (140, ⟨72, true, [.int .u64 0, .int .u64 0, .int .u64 0, .int .u64 0, .int .u64 0, .int .u64 0, .int .u64 0, .int .u64 0, .int .u64 0, .int .u64 0, .int .u64 0, .int .u64 0, .int .u64 0, .int .u64 0, .int .u64 0, .int .u64 0, .int .u64 0, .int .u64 0, .int .u64 0, .int .u64 0, .int .u64 0, .int .u64 0, .int .u64 0, .int .u64 0, .int .u64 0, .int .u64 0, .int .u64 0, .int .u64 0, .int .u64 0, .int .u64 0, .int .u64 0, .int .u64 0, .int .u64 0, .int .u64 0, .int .u64 0, .int .u64 0, .int .u64 0, .int .u64 0, .int .u64 0, .int .u64 0, .int .u64 0, .int .u64 0, .int .u64 0, .int .u64 0, .int .u64 0, .int .u64 0, .int .u64 0, .int .u64 0, .int .u64 0, .int .u64 0, .int .u64 0, .int .u64 0, .int .u64 0, .int .u64 0, .int .u64 0, .int .u64 0, .int .u64 0, .int .u64 0, .int .u64 0, .int .u64 0, .int .u64 0, .int .u64 0, .int .u64 0, .int .u64 0, .int .u64 0, .int .u64 0, .int .u64 0, .int .u64 0, .int .u64 0, .int .u64 0, .int .u64 0, .int .u64 0], [], some (9, 8), none, 8, none, none, true, []⟩),
 (141, ⟨48, true, [.int .u64 0, .int .u64 0, .int .u64 0, .int .u64 0, .int .u64 0, .int .u64 0, .int .u64 0, .int .u64 0, .int .u64 0, .int .u64 0, .int .u64 0, .int .u64 0, .int .u64 0, .int .u64 0, .int .u64 0, .int .u64 0, .int .u64 0, .int .u64 0, .int .u64 0, .int .u64 0, .int .u64 0, .int .u64 0, .int .u64 0, .int .u64 0, .int .u64 0, .int .u64 0, .int .u64 0, .int .u64 0, .int .u64 0, .int .u64 0, .int .u64 0, .int .u64 0, .int .u64 0, .int .u64 0, .int .u64 0, .int .u64 0, .int .u64 0, .int .u64 0, .int .u64 0, .int .u64 0, .int .u64 0, .int .u64 0, .int .u64 0, .int .u64 0, .int .u64 0, .int .u64 0, .int .u64 0, .int .u64 0], [], some (6, 8), none, 8, none, none, true, []⟩),
 (87, ⟨24, true, [.int .u64 0, .int .u64 0, .int .u64 0, .int .u64 0, .int .u64 0, .int .u64 0, .int .u64 0, .int .u64 0, .int .u64 0, .int .u64 0, .int .u64 0, .int .u64 0, .int .u64 0, .int .u64 0, .int .u64 0, .int .u64 0, .int .u64 0, .int .u64 0, .int .u64 0, .int .u64 0, .int .u64 0, .int .u64 0, .int .u64 0, .int .u64 0], [some (0, 8), some (8, 8), some (16, 8)], none, none, 7, none, none, true, []⟩),
 (3, ⟨1, false, [.int .i64 0], [], none, some .i64, 2, none, none, true, []⟩),
 (93, ⟨40, true, [.int .u64 0, .int .u64 0, .int .u64 0, .int .u64 0, .int .u64 0, .int .u64 0, .int .u64 0, .int .u64 0, .int .u64 0, .int .u64 0, .int .u64 0, .int .u64 0, .int .u64 0, .int .u64 0, .int .u64 0, .int .u64 0, .int .u64 0, .int .u64 0, .int .u64 0, .int .u64 0, .int .u64 0, .int .u64 0, .int .u64 0, .int .u64 0, .int .u64 0, .int .u64 0, .int .u64 0, .int .u64 0, .int .u64 0, .int .u64 0, .int .u64 0, .int .u64 0, .int .u64 0, .int .u64 0, .int .u64 0, .int .u64 0, .int .u64 0, .int .u64 0, .int .u64 0, .int .u64 0], [], some (5, 8), none, 8, none, none, true, []⟩),
 (92, ⟨24, true, [.int .u64 0, .int .u64 0, .int .u64 0, .int .u64 0, .int .u64 0, .int .u64 0, .int .u64 0, .int .u64 0, .int .u64 0, .int .u64 0, .int .u64 0, .int .u64 0, .int .u64 0, .int .u64 0, .int .u64 0, .int .u64 0, .int .u64 0, .int .u64 0, .int .u64 0, .int .u64 0, .int .u64 0, .int .u64 0, .int .u64 0, .int .u64 0], [some (0, 8), some (8, 8), some (16, 8)], none, none, 7, none, none, true, []⟩),
 (67, ⟨16, true, [.int .u64 0, .int .u64 0, .int .u64 0, .int .u64 0, .int .u64 0, .int .u64 0, .int .u64 0, .int .u64 0, .int .u64 0, .int .u64 0, .int .u64 0, .int .u64 0, .int .u64 0, .int .u64 0, .int .u64 0, .int .u64 0], [some (0, 8), some (8, 8)], none, none, 7, none, none, true, []⟩),
 (22, ⟨1, false, [.int .u64 0], [], none, some .u64, 2, none, none, true, []⟩)]
noncomputable def cFn2 : List (Nat × Func) := [(63, Tryz.f63), (111, Tryz.f111), (65, Tryz.f65), (113, Tryz.f113), (70, Tryz.f70), (67, Tryz.f67), (115, Tryz.f115), (69, Tryz.f69), (117, Tryz.f117), (66, Tryz.f66), (114, Tryz.f114), (42, Tryz.f42), (84, Tryz.f84), (37, Tryz.f37), (72, Tryz.f72), (29, Tryz.f29), (64, Tryz.f64), (68, Tryz.f68), (116, Tryz.f116), (142, Tryz.f142), (125, Tryz.f125), (92, Tryz.f92), (83, Tryz.f83), (38, Tryz.f38), (39, Tryz.f39), (91, Tryz.f91), (93, Tryz.f93), (88, Tryz.f88), (40, Tryz.f40), (41, Tryz.f41), (87, Tryz.f87), (89, Tryz.f89), (96, Tryz.f96), (126, Tryz.f126), (94, Tryz.f94), (97, Tryz.f97), (95, Tryz.f95), (98, Tryz.f98), (44, Tryz.f44), (76, Tryz.f76), (80, Tryz.f80), (30, Tryz.f30), (79, Tryz.f79), (78, Tryz.f78), (33, Tryz.f33), (77, Tryz.f77), (81, Tryz.f81), (49, Tryz.f49), (46, Tryz.f46), (85, Tryz.f85), (86, Tryz.f86), (45, Tryz.f45), (50, Tryz.f50), (47, Tryz.f47), (51, Tryz.f51), (32, Tryz.f32), (73, Tryz.f73), (74, Tryz.f74), (75, Tryz.f75), (36, Tryz.f36), (31, Tryz.f31), (28, Tryz.f28), (35, Tryz.f35), (34, Tryz.f34)]
def n_e2Mul : Nat := 63
def d_e2Mul : GFd := ⟨100, [(2, true), (2, false), (2, false)], [(0, 1), (0, 2), (1, 2)], true, 0⟩
def n_e2Square : Nat := 65
def d_e2Square : GFd := ⟨101, [(2, true), (2, false)], [(0, 1)], true, 0⟩
def n_e2Add : Nat := 67
def d_e2Add : GFd := ⟨102, [(2, true), (2, false), (2, false)], [(0, 1), (0, 2), (1, 2)], true, 0⟩
def n_e2Sub : Nat := 69
def d_e2Sub : GFd := ⟨103, [(2, true), (2, false), (2, false)], [(0, 1), (0, 2), (1, 2)], true, 0⟩
def n_e2Double : Nat := 66
def d_e2Double : GFd := ⟨104, [(2, true), (2, false)], [(0, 1)], true, 0⟩
def n_e2Neg : Nat := 42
def d_e2Neg : GFd := ⟨105, [(2, true), (2, false)], [(0, 1)], true, 0⟩
def n_e2Conj : Nat := 37
def d_e2Conj : GFd := ⟨106, [(2, true), (2, false)], [(0, 1)], true, 0⟩
def n_e2Nr : Nat := 72
def d_e2Nr : GFd := ⟨107, [(2, true), (2, false)], [(0, 1)], true, 0⟩
def n_e2El : Nat := 29
def d_e2El : GFd := ⟨108, [(2, true), (2, false), (1, false)], [(0, 1)], true, 0⟩
def n_e2Halve : Nat := 64
def d_e2Halve : GFd := ⟨109, [(2, true)], [], false, 0⟩
def n_e2Tw : Nat := 68
def d_e2Tw : GFd := ⟨110, [(2, true), (2, false)], [(0, 1)], true, 0⟩
def n_e2Inv : Nat := 125
def d_e2Inv : GFd := ⟨111, [(2, true), (2, false)], [(0, 1)], true, 0⟩
def n_e2p11 : Nat := 92
def d_e2p11 : GFd := ⟨121, [(2, true), (2, false)], [(0, 1)], true, 0⟩
def n_e2p12 : Nat := 38
def d_e2p12 : GFd := ⟨122, [(2, true), (2, false)], [(0, 1)], true, 0⟩
def n_e2p13 : Nat := 39
def d_e2p13 : GFd := ⟨123, [(2, true), (2, false)], [(0, 1)], true, 0⟩
def n_e2p14 : Nat := 91
def d_e2p14 : GFd := ⟨124, [(2, true), (2, false)], [(0, 1)], true, 0⟩
def n_e2p15 : Nat := 93
def d_e2p15 : GFd := ⟨125, [(2, true), (2, false)], [(0, 1)], true, 0⟩
def n_e2p21 : Nat := 88
def d_e2p21 : GFd := ⟨131, [(2, true), (2, false)], [(0, 1)], true, 0⟩
def n_e2p22 : Nat := 40
def d_e2p22 : GFd := ⟨132, [(2, true), (2, false)], [(0, 1)], true, 0⟩
def n_e2p23 : Nat := 41
def d_e2p23 : GFd := ⟨133, [(2, true), (2, false)], [(0, 1)], true, 0⟩
def n_e2p24 : Nat := 87
def d_e2p24 : GFd := ⟨134, [(2, true), (2, false)], [(0, 1)], true, 0⟩
def n_e2p25 : Nat := 89
def d_e2p25 : GFd := ⟨135, [(2, true), (2, false)], [(0, 1)], true, 0⟩
def n_e2p31 : Nat := 96
def d_e2p31 : GFd := ⟨141, [(2, true), (2, false)], [(0, 1)], true, 0⟩
def n_e2p32 : Nat := 94
def d_e2p32 : GFd := ⟨142, [(2, true), (2, false)], [(0, 1)], true, 0⟩
def n_e2p33 : Nat := 97
def d_e2p33 : GFd := ⟨143, [(2, true), (2, false)], [(0, 1)], true, 0⟩
def n_e2p34 : Nat := 95
def d_e2p34 : GFd := ⟨144, [(2, true), (2, false)], [(0, 1)], true, 0⟩
def n_e2p35 : Nat := 98
def d_e2p35 : GFd := ⟨145, [(2, true), (2, false)], [(0, 1)], true, 0⟩
def n_e12Mul : Nat := 44
def d_e12Mul : GFd := ⟨200, [(12, true), (12, false), (12, false)], [(0, 1), (0, 2)], true, 0⟩
def n_e12Square : Nat := 33
def d_e12Square : GFd := ⟨201, [(12, true), (12, false)], [(0, 1)], true, 0⟩
def n_e12Cyc : Nat := 49
def d_e12Cyc : GFd := ⟨202, [(12, true), (12, false)], [(0, 1)], true, 0⟩
def n_e12Inv : Nat := 46
def d_e12Inv : GFd := ⟨203, [(12, true), (12, false)], [(0, 1)], true, 0⟩
def n_e12Conj : Nat := 45
def d_e12Conj : GFd := ⟨204, [(12, true), (12, false)], [(0, 1)], true, 0⟩
def n_e12F1 : Nat := 50
def d_e12F1 : GFd := ⟨205, [(12, true), (12, false)], [], true, 0⟩
def n_e12F2 : Nat := 47
def d_e12F2 : GFd := ⟨206, [(12, true), (12, false)], [], true, 0⟩
def n_e12F3 : Nat := 51
def d_e12F3 : GFd := ⟨207, [(12, true), (12, false)], [(0, 1)], true, 0⟩
def n_e12M034 : Nat := 32
def d_e12M034 : GFd := ⟨208, [(12, true), (2, false), (2, false), (2, false)], [], true, 0⟩
def n_e12M01234 : Nat := 36
def d_e12M01234 : GFd := ⟨209, [(12, true), (10, false)], [], true, 0⟩
def n_m034 : Nat := 31
def d_m034 : GFd := ⟨210, [(2, false), (2, false), (2, false), (2, false), (2, false), (2, false)], [], false, 10⟩
def n_dblStep : Nat := 28
def d_dblStep : GFd := ⟨211, [(6, true), (6, true)], [], false, 0⟩
def n_addStep : Nat := 35
def d_addStep : GFd := ⟨212, [(6, true), (6, true), (4, false)], [], false, 0⟩
def n_lineStep : Nat := 34
def d_lineStep : GFd := ⟨213, [(6, false), (6, true), (4, false)], [], false, 0⟩
noncomputable def C2 : Ctx := ⟨cTy2, cFn2, cEx, [], foldF⟩
theorem C2_ok : CtxOk Tryz.prog FD C2 :=
  ctx_more (C := C2) C0_ok rfl rfl (by kernel_rfl) (by kernel_rfl) (by kernel_rfl) (by kernel_rfl) (by kernel_rfl)
def pr2 : List (Nat × PrimS) := (nInverse, .p (.eun 3)) :: (nHalve, .g ⟨8, [(1, true)], [], false, 0⟩) :: pr1
theorem pr2_ok : PrimsOK Tryz.prog pr2 := ⟨inverse_ok, halve_ok, pr1_ok⟩
noncomputable def call2 : CallF := callS C2 lo0 pr2 40 12
theorem call2_ok : CallOK Tryz.prog FD call2 := callS_ok C2_ok mixed lo0_ok (prims_ok (l := pr2) pr2_ok (by kernel_rfl)) 40 12
theorem e2Mul_ok : PrimOK Tryz.prog FD n_e2Mul (.g d_e2Mul) := g_leaf call2_ok (F := efB) 100 (fun _ xs h => (efF_base h xs).symm) (fun xs => efF_l1 (by decide) (by decide) xs) (ne' := 14) (by kernel_rfl) (by kernel_rfl) (by kernel_rfl)
theorem e2Square_ok : PrimOK Tryz.prog FD n_e2Square (.g d_e2Square) := g_leaf call2_ok (F := efB) 100 (fun _ xs h => (efF_base h xs).symm) (fun xs => efF_l1 (by decide) (by decide) xs) (ne' := 9) (by kernel_rfl) (by kernel_rfl) (by kernel_rfl)
theorem e2Add_ok : PrimOK Tryz.prog FD n_e2Add (.g d_e2Add) := g_leaf call2_ok (F := efB) 100 (fun _ xs h => (efF_base h xs).symm) (fun xs => efF_l1 (by decide) (by decide) xs) (ne' := 8) (by kernel_rfl) (by kernel_rfl) (by kernel_rfl)
theorem e2Sub_ok : PrimOK Tryz.prog FD n_e2Sub (.g d_e2Sub) := g_leaf call2_ok (F := efB) 100 (fun _ xs h => (efF_base h xs).symm) (fun xs => efF_l1 (by decide) (by decide) xs) (ne' := 8) (by kernel_rfl) (by kernel_rfl) (by kernel_rfl)
theorem e2Double_ok : PrimOK Tryz.prog FD n_e2Double (.g d_e2Double) := g_leaf call2_ok (F := efB) 100 (fun _ xs h => (efF_base h xs).symm) (fun xs => efF_l1 (by decide) (by decide) xs) (ne' := 6) (by kernel_rfl) (by kernel_rfl) (by kernel_rfl)
theorem e2Neg_ok : PrimOK Tryz.prog FD n_e2Neg (.g d_e2Neg) := g_leaf call2_ok (F := efB) 100 (fun _ xs h => (efF_base h xs).symm) (fun xs => efF_l1 (by decide) (by decide) xs) (ne' := 6) (by kernel_rfl) (by kernel_rfl) (by kernel_rfl)
theorem e2Conj_ok : PrimOK Tryz.prog FD n_e2Conj (.g d_e2Conj) := g_leaf call2_ok (F := efB) 100 (fun _ xs h => (efF_base h xs).symm) (fun xs => efF_l1 (by decide) (by decide) xs) (ne' := 5) (by kernel_rfl) (by kernel_rfl) (by kernel_rfl)
theorem e2Nr_ok : PrimOK Tryz.prog FD n_e2Nr (.g d_e2Nr) := g_leaf call2_ok (F := efB) 100 (fun _ xs h => (efF_base h xs).symm) (fun xs => efF_l1 (by decide) (by decide) xs) (ne' := 14) (by kernel_rfl) (by kernel_rfl) (by kernel_rfl)
theorem e2El_ok : PrimOK Tryz.prog FD n_e2El (.g d_e2El) := g_leaf call2_ok (F := efB) 100 (fun _ xs h => (efF_base h xs).symm) (fun xs => efF_l1 (by decide) (by decide) xs) (ne' := 7) (by kernel_rfl) (by kernel_rfl) (by kernel_rfl)
theorem e2Halve_ok : PrimOK Tryz.prog FD n_e2Halve (.g d_e2Halve) := g_leaf call2_ok (F := efB) 100 (fun _ xs h => (efF_base h xs).symm) (fun xs => efF_l1 (by decide) (by decide) xs) (ne' := 4) (by kernel_rfl) (by kernel_rfl) (by kernel_rfl)
theorem e2Tw_ok : PrimOK Tryz.prog FD n_e2Tw (.g d_e2Tw) := g_leaf call2_ok (F := efB) 100 (fun _ xs h => (efF_base h xs).symm) (fun xs => efF_l1 (by decide) (by decide) xs) (ne' := 16) (by kernel_rfl) (by kernel_rfl) (by kernel_rfl)
theorem e2Inv_ok : PrimOK Tryz.prog FD n_e2Inv (.g d_e2Inv) := g_leaf call2_ok (F := efB) 100 (fun _ xs h => (efF_base h xs).symm) (fun xs => efF_l1 (by decide) (by decide) xs) (ne' := 11) (by kernel_rfl) (by kernel_rfl) (by kernel_rfl)
theorem e2p11_ok : PrimOK Tryz.prog FD n_e2p11 (.g d_e2p11) := g_leaf call2_ok (F := efB) 100 (fun _ xs h => (efF_base h xs).symm) (fun xs => efF_l1 (by decide) (by decide) xs) (ne' := 12) (by kernel_rfl) (by kernel_rfl) (by kernel_rfl)
theorem e2p12_ok : PrimOK Tryz.prog FD n_e2p12 (.g d_e2p12) := g_leaf call2_ok (F := efB) 100 (fun _ xs h => (efF_base h xs).symm) (fun xs => efF_l1 (by decide) (by decide) xs) (ne' := 12) (by kernel_rfl) (by kernel_rfl) (by kernel_rfl)
theorem e2p13_ok : PrimOK Tryz.prog FD n_e2p13 (.g d_e2p13) := g_leaf call2_ok (F := efB) 100 (fun _ xs h => (efF_base h xs).symm) (fun xs => efF_l1 (by decide) (by decide) xs) (ne' := 12) (by kernel_rfl) (by kernel_rfl) (by kernel_rfl)
theorem e2p14_ok : PrimOK Tryz.prog FD n_e2p14 (.g d_e2p14) := g_leaf call2_ok (F := efB) 100 (fun _ xs h => (efF_base h xs).symm) (fun xs => efF_l1 (by decide) (by decide) xs) (ne' := 12) (by kernel_rfl) (by kernel_rfl) (by kernel_rfl)
theorem e2p15_ok : PrimOK Tryz.prog FD n_e2p15 (.g d_e2p15) := g_leaf call2_ok (F := efB) 100 (fun _ xs h => (efF_base h xs).symm) (fun xs => efF_l1 (by decide) (by decide) xs) (ne' := 12) (by kernel_rfl) (by kernel_rfl) (by kernel_rfl)
theorem e2p21_ok : PrimOK Tryz.prog FD n_e2p21 (.g d_e2p21) := g_leaf call2_ok (F := efB) 100 (fun _ xs h => (efF_base h xs).symm) (fun xs => efF_l1 (by decide) (by decide) xs) (ne' := 6) (by kernel_rfl) (by kernel_rfl) (by kernel_rfl)
theorem e2p22_ok : PrimOK Tryz.prog FD n_e2p22 (.g d_e2p22) := g_leaf call2_ok (F := efB) 100 (fun _ xs h => (efF_base h xs).symm) (fun xs => efF_l1 (by decide) (by decide) xs) (ne' := 6) (by kernel_rfl) (by kernel_rfl) (by kernel_rfl)
theorem e2p23_ok : PrimOK Tryz.prog FD n_e2p23 (.g d_e2p23) := g_leaf call2_ok (F := efB) 100 (fun _ xs h => (efF_base h xs).symm) (fun xs => efF_l1 (by decide) (by decide) xs) (ne' := 6) (by kernel_rfl) (by kernel_rfl) (by kernel_rfl)
theorem e2p24_ok : PrimOK Tryz.prog FD n_e2p24 (.g d_e2p24) := g_leaf call2_ok (F := efB) 100 (fun _ xs h => (efF_base h xs).symm) (fun xs => efF_l1 (by decide) (by decide) xs) (ne' := 6) (by kernel_rfl) (by kernel_rfl) (by kernel_rfl)
theorem e2p25_ok : PrimOK Tryz.prog FD n_e2p25 (.g d_e2p25) := g_leaf call2_ok (F := efB) 100 (fun _ xs h => (efF_base h xs).symm) (fun xs => efF_l1 (by decide) (by decide) xs) (ne' := 6) (by kernel_rfl) (by kernel_rfl) (by kernel_rfl)
theorem e2p31_ok : PrimOK Tryz.prog FD n_e2p31 (.g d_e2p31) := g_leaf call2_ok (F := efB) 100 (fun _ xs h => (efF_base h xs).symm) (fun xs => efF_l1 (by decide) (by decide) xs) (ne' := 12) (by kernel_rfl) (by kernel_rfl) (by kernel_rfl)
theorem e2p32_ok : PrimOK Tryz.prog FD n_e2p32 (.g d_e2p32) := g_leaf call2_ok (F := efB) 100 (fun _ xs h => (efF_base h xs).symm) (fun xs => efF_l1 (by decide) (by decide) xs) (ne' := 12) (by kernel_rfl) (by kernel_rfl) (by kernel_rfl)
theorem e2p33_ok : PrimOK Tryz.prog FD n_e2p33 (.g d_e2p33) := g_leaf call2_ok (F := efB) 100 (fun _ xs h => (efF_base h xs).symm) (fun xs => efF_l1 (by decide) (by decide) xs) (ne' := 12) (by kernel_rfl) (by kernel_rfl) (by kernel_rfl)
theorem e2p34_ok : PrimOK Tryz.prog FD n_e2p34 (.g d_e2p34) := g_leaf call2_ok (F := efB) 100 (fun _ xs h => (efF_base h xs).symm) (fun xs => efF_l1 (by decide) (by decide) xs) (ne' := 12) (by kernel_rfl) (by kernel_rfl) (by kernel_rfl)
theorem e2p35_ok : PrimOK Tryz.prog FD n_e2p35 (.g d_e2p35) := g_leaf call2_ok (F := efB) 100 (fun _ xs h => (efF_base h xs).symm) (fun xs => efF_l1 (by decide) (by decide) xs) (ne' := 12) (by kernel_rfl) (by kernel_rfl) (by kernel_rfl)
def pr3 : List (Nat × PrimS) := [(n_e2Mul, .g d_e2Mul), (n_e2Square, .g d_e2Square), (n_e2Add, .g d_e2Add), (n_e2Sub, .g d_e2Sub), (n_e2Double, .g d_e2Double), (n_e2Neg, .g d_e2Neg), (n_e2Conj, .g d_e2Conj), (n_e2Nr, .g d_e2Nr), (n_e2El, .g d_e2El), (n_e2Halve, .g d_e2Halve), (n_e2Tw, .g d_e2Tw), (n_e2Inv, .g d_e2Inv), (n_e2p11, .g d_e2p11), (n_e2p12, .g d_e2p12), (n_e2p13, .g d_e2p13), (n_e2p14, .g d_e2p14), (n_e2p15, .g d_e2p15), (n_e2p21, .g d_e2p21), (n_e2p22, .g d_e2p22), (n_e2p23, .g d_e2p23), (n_e2p24, .g d_e2p24), (n_e2p25, .g d_e2p25), (n_e2p31, .g d_e2p31), (n_e2p32, .g d_e2p32), (n_e2p33, .g d_e2p33), (n_e2p34, .g d_e2p34), (n_e2p35, .g d_e2p35)] ++ pr2
theorem pr3_ok : PrimsOK Tryz.prog pr3 := ⟨e2Mul_ok, e2Square_ok, e2Add_ok, e2Sub_ok, e2Double_ok, e2Neg_ok, e2Conj_ok, e2Nr_ok, e2El_ok, e2Halve_ok, e2Tw_ok, e2Inv_ok, e2p11_ok, e2p12_ok, e2p13_ok, e2p14_ok, e2p15_ok, e2p21_ok, e2p22_ok, e2p23_ok, e2p24_ok, e2p25_ok, e2p31_ok, e2p32_ok, e2p33_ok, e2p34_ok, e2p35_ok, pr2_ok⟩
end Go.Proofs.YtnmkmbjbaagojaaGreatDoor
