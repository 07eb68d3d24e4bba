/- A part of the proof of laws.FnPairUneven. -/
import Derived.Test.YtnmkmbjbaagojaaGreatDoorK16
import Derived.Test.YtnmkmbjbaagojaaGreatDoorK19
import Derived.Test.YtnmkmbjbaagojaaGreatDoorK20
namespace Go.Proofs.YtnmkmbjbaagojaaGreatDoor
open Go
set_option maxRecDepth 100000
set_option linter.unusedVariables false
set_option linter.unusedSimpArgs false
/-! the inverse's pieces on this program (printed by a program) -/
theorem isOne_ok : PrimOK Tryz.prog FD nIsOne (.p (.t1 1)) := one_leaf call10_ok (PT.chk_of (by kernel_rfl))
def prI : List (Nat × PrimS) := [(nMul64, .pf 0 [.u64, .u64] [.u64, .u64]), (nsmallerThanModulus, .tm 0 4), (nBitLen, .rd 10 4 [] [.i64]), (napproximate, .rd 11 4 [.i64] [.u64]), (nlinearCombNonModular, .lc 12)]
noncomputable def callI : CallF := callS C1 lo0 prI 300 12
theorem callI_ok : CallOK Tryz.prog FD callI := callS_ok C1_ok mixed lo0_ok (prims_ok (l := prI) ⟨mul64_ok, smaller_ok, bitlen_ok, apx_ok, lc_ok, trivial⟩ (by kernel_rfl)) 300 12
def prJ : List (Nat × PrimS) := [(nMul, .p (.ebin 0)), (nSquare, .p (.eun 0)), (nIsZero, .p (.t1 0)), (nIsOne, .p (.t1 1))]
noncomputable def callJ : CallF := callS C1 lo0 prJ 300 12
theorem callJ_ok : CallOK Tryz.prog FD callJ := callS_ok C1_ok mixed lo0_ok (prims_ok (l := prJ) ⟨mul_ok, square_ok, isZero_ok, isOne_ok, trivial⟩ (by kernel_rfl)) 300 12
noncomputable def bodyI : Code := match Tryz.f144.body with | some c => c | none => .skip
noncomputable def cL : List Code := [bodyI]
noncomputable def cL0 : List Code := [subP [2, 3] (hdC (dropF 9 cL))]
noncomputable def cL1 : List Code := [subP [2] (hdC (dropF 2 cL0))]
noncomputable def cL2 : List Code := [subP [2, 3] (hdC (dropF 4 cL1))]
noncomputable def cL3 : List Code := [subP [4] (hdC (dropF 25 cL1))]
noncomputable def cL3e : List Code := [subP [5] (hdC (dropF 25 cL1))]
noncomputable def cL4 : List Code := [subP [2, 3] (hdC (dropF 11 cL))]
theorem iP0_chk : iP0.chk (segRunN C1 callI 239 300 9 cL [(0, .a (pz 1)), (1, .a (pz 0))] (fun _ => tsM) [(false, w0 0), (false, [])] 1 0) [] [] := PT.chk_of (by kernel_rfl)
theorem iA_chk : iA.chk (segRunN C1 callI 239 300 2 cL0 (zipT tsM shM) (fun _ => tsM) memM 1 27) [] [] := PT.chk_of (by kernel_rfl)
theorem iB1_chk : iB1.chk (segRunN C1 callI 239 300 4 cL1 (zipT tsM shM) (fun _ => tsI) memM 1 27) [] [] := PT.chk_of (by kernel_rfl)
theorem iIn_chk : iIn.chk (segRunN C1 callI 239 300 4 cL2 (zipT tsI shI) (fun _ => tsI) memM 1 30) [] [] := PT.chk_of (by kernel_rfl)
theorem iB3a_chk : iB3a.chk (segRunN C1 callI 239 300 10 (dropF 5 cL1) (zipT tsM shM) (fun _ => ts3) memM 1 27) [] [] := PT.chk_of (by kernel_rfl)
theorem iB3b_chk : iB3b.chk (segRunN C1 callI 239 300 9 (dropF 15 cL1) (zipT ts3 sh3) (fun _ => ts4) memM 1 28) [] [] := PT.chk_of (by kernel_rfl)
theorem iB3c_chk : iB3c.chk (segRunN C1 callI 239 300 1 (dropF 24 cL1) (zipT ts4 sh4) (fun _ => (ts4 ++ [175])) memM 1 29) [] [] := PT.chk_of (by kernel_rfl)
theorem iB3d_chk : iB3d.chk (segRunN C1 callI 239 300 3 cL3 (zipT ts4 sh4) (fun _ => ts5) memM 1 29) [] [] := PT.chk_of (by kernel_rfl)
theorem iB3e_chk : iB3e.chk (segRunN C1 callI 239 300 1 (dropF 3 cL3) (zipT ts5 sh5) (fun _ => tsM) memM 1 28) [] [] := PT.chk_of (by kernel_rfl)
theorem iB3f_chk : iB3f.chk (segRunN C1 callI 239 300 1 cL3e (zipT ts4 sh4) (fun _ => tsM) memM 1 29) [] [] := PT.chk_of (by kernel_rfl)
theorem iI_chk : iI.chk (segRunN C1 callI 239 300 1 (dropF 3 cL0) (zipT tsM shM) (fun _ => tsM) memM 1 27) [] [] := PT.chk_of (by kernel_rfl)
theorem iT1_chk : iT1.chk (segRunN C1 callI 239 300 1 (dropF 10 cL) (zipT tsM shM) (fun _ => tsT) memM 1 27) [] [] := PT.chk_of (by kernel_rfl)
theorem iL4_chk : iL4.chk (segRunN C1 callI 239 300 4 cL4 (zipT tsT shT) (fun _ => tsT) memT 1 16) [] [] := PT.chk_of (by kernel_rfl)
theorem iT2A_chk : iT2A.chk (segRunN C1 callI 239 300 2 (dropF 12 cL) (zipT [0, 1, 7, 15] [pz 0, pz 0, pz 4, pz 5]) (fun _ => [0, 7, 15]) ((true, w0 0) :: (false, []) :: [(true, one4), (true, cl 5), (true, cl 9), (true, cl 0)] : Mem) 1 16) [] [] := PT.chk_of (by kernel_rfl)
theorem iT4A_chk : iT4A.chk (segRunN C1 callJ 239 300 2 (dropF 14 cL) (zipT [0, 7, 15] [pz 0, pz 4, pz 5]) (fun _ => [0, 7, 234]) ((true, w0 1) :: (false, []) :: [(true, one4), (true, cl 5), (true, w0 0), (true, cl 0)] : Mem) 2 16) [] [] := PT.chk_of (by kernel_rfl)
theorem iT5A_chk : iT5A.chk (segRunN C1 callJ 239 300 3 (dropF 16 cL) (zipT [0, 7, 234] [pz 0, pz 4, .c (.lit (.bool true))]) (fun _ => [4]) ((true, cl 9) :: (false, []) :: [(true, one4), (true, cl 5), (true, w0 0), (true, cl 0)] : Mem) 1 16) [] [] := PT.chk_of (by kernel_rfl)
theorem iT6A_chk : iT6A.chk (segRunN C1 callJ 239 300 3 (dropF 16 cL) (zipT [0, 7, 234] [pz 0, pz 4, .c (.lit (.bool false))]) (fun _ => [4]) ((true, cl 9) :: (false, []) :: [(true, one4), (true, cl 5), (true, w0 0), (true, cl 0)] : Mem) 1 16) [] [] := PT.chk_of (by kernel_rfl)
theorem iT2B_chk (q0 q1 q2 q3 : Value) : iT2B.chk (segRunN C1 callI 239 300 2 (dropF 12 cL) (zipT [0, 1, 7, 15] [pz 6, pz 0, pz 4, pz 5]) (fun _ => [0, 7, 15]) ((false, w0 0) :: (false, []) :: [(true, one4), (true, cl 5), (true, cl 9), (true, cl 0)] ++ [(true, [.lit q0, .lit q1, .lit q2, .lit q3])] : Mem) 1 16) [] [] := PT.chk_of (by kernel_rfl)
theorem iT4B_chk : iT4B.chk (segRunN C1 callJ 239 300 2 (dropF 14 cL) (zipT [0, 7, 15] [pz 6, pz 4, pz 5]) (fun _ => [0, 7, 234]) ((false, w0 0) :: (false, []) :: [(true, one4), (true, cl 5), (true, w0 0), (true, cl 0)] ++ [(true, w0 1)] : Mem) 2 16) [] [] := PT.chk_of (by kernel_rfl)
theorem iT5B_chk : iT5B.chk (segRunN C1 callJ 239 300 3 (dropF 16 cL) (zipT [0, 7, 234] [pz 6, pz 4, .c (.lit (.bool true))]) (fun _ => [4]) ((false, w0 0) :: (false, []) :: [(true, one4), (true, cl 5), (true, w0 0), (true, cl 0)] ++ [(true, cl 9)] : Mem) 1 16) [] [] := PT.chk_of (by kernel_rfl)
theorem iT6B_chk : iT6B.chk (segRunN C1 callJ 239 300 3 (dropF 16 cL) (zipT [0, 7, 234] [pz 6, pz 4, .c (.lit (.bool false))]) (fun _ => [4]) ((false, w0 0) :: (false, []) :: [(true, one4), (true, cl 5), (true, w0 0), (true, cl 0)] ++ [(true, cl 9)] : Mem) 1 16) [] [] := PT.chk_of (by kernel_rfl)
end Go.Proofs.YtnmkmbjbaagojaaGreatDoor
