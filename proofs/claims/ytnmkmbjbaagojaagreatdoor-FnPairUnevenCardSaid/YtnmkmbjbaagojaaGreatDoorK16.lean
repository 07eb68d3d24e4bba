/- A part of the proof of laws.FnPairUneven. -/
import Derived.Shelf.Small.Bits
import Derived.Test.YtnmkmbjbaagojaaGreatDoorProg
import Derived.Test.YtnmkmbjbaagojaaGreatDoorK13
import Derived.Test.YtnmkmbjbaagojaaGreatDoorK14
import Derived.Test.YtnmkmbjbaagojaaGreatDoorK15
import Derived.Laws.MathBits
namespace Go.Proofs.YtnmkmbjbaagojaaGreatDoor
open Go
set_option maxRecDepth 100000
set_option linter.unusedVariables false
set_option linter.unusedSimpArgs false
section
open Go.Shelf
def Tryz.lays129_ren : Go.Shelf.Ren := ⟨fun | 129 => 179 | n => n, fun | 53 => 22 | 3 => 3 | 4 => 4 | 46 => 157 | 5 => 5 | 9 => 9 | n => n, fun | n => n⟩
theorem Tryz.lays129 : Go.Proofs.Lays.n129 Tryz.prog Tryz.lays129_ren := {
  mixed := by kernel_rfl
  f129 := Tryz.func179.trans (congrArg some (by kernel_rfl))
  t3 := Tryz.underlying3
  a3 := Tryz.isAgg3
  z3 := Tryz.sizeOf3
  v3 := Tryz.zeroValue3
  t4 := Tryz.underlying4
  a4 := Tryz.isAgg4
  z4 := Tryz.sizeOf4
  v4 := Tryz.zeroValue4
  t5 := Tryz.underlying5
  a5 := Tryz.isAgg5
  z5 := Tryz.sizeOf5
  v5 := Tryz.zeroValue5
  t9 := Tryz.underlying9
  a9 := Tryz.isAgg9
  z9 := Tryz.sizeOf9
  v9 := Tryz.zeroValue9
  t46 := Tryz.underlying157
  a46 := Tryz.isAgg157
  z46 := Tryz.sizeOf157
  v46 := Tryz.zeroValue157
  t53 := Tryz.underlying22
  a53 := Tryz.isAgg22
  z53 := Tryz.sizeOf22
  v53 := Tryz.zeroValue22 }
theorem Tryz.bits_Len64 (x : Int) (w : World) (h0 : 0 ≤ x) (h1 : x ≤ 18446744073709551615) :
    Calls Tryz.prog 179 #[.int .u64 x] w fun e w' => e = .returned (.int .i64 (Lib.bitLen x.toNat)) ∧ w' = w := Any.bits_Len64 Tryz.lays129 x w h0 h1
end
/-! the words' leaves behind the inverse -/
noncomputable def cTy1 : List (Nat × TyI) := [(22, ⟨1, false, [.int .u64 0], [], none, some .u64, 2, none, none, true, []⟩),
 (48, ⟨4, true, [.int .u64 0, .int .u64 0, .int .u64 0, .int .u64 0], [], some (4, 1), none, 8, none, none, true, []⟩),
 (98, ⟨1, false, [.pointer none], [], none, none, 4, none, some 4, true, []⟩),
 (2, ⟨1, false, [.int .i64 0], [], none, some .i64, 2, none, none, true, []⟩),
 (219, ⟨7, true, [.int .u64 0, .int .u64 0, .int .u64 0, .int .u64 0, .int .u64 0, .int .u64 0, .int .u64 0], [], some (7, 1), none, 8, none, none, true, []⟩),
 (3, ⟨1, false, [.int .i64 0], [], none, some .i64, 2, none, none, true, []⟩),
 (157, ⟨1, false, [.int .u64 0], [], none, some .u64, 2, none, none, true, []⟩)]
noncomputable def cFn1 : List (Nat × Func) := [(144, Tryz.f144), (59, Tryz.f59), (160, Tryz.f160), (161, Tryz.f161), (162, Tryz.f162), (163, Tryz.f163), (180, Tryz.f180), (185, Tryz.f185), (164, Tryz.f164), (165, Tryz.f165), (181, Tryz.f181), (168, Tryz.f168), (169, Tryz.f169), (71, Tryz.f71), (70, Tryz.f70), (166, Tryz.f166), (167, Tryz.f167), (143, Tryz.f143), (112, Tryz.f112), (127, Tryz.f127), (145, Tryz.f145)]
def nBitLen : Nat := 160
def nlinearCombNonModular : Nat := 163
def nlinearComb : Nat := 165
def nmulWNonModular : Nat := 180
def nmontReduceSigned : Nat := 181
def nHalve : Nat := 112
def ninverseExp : Nat := 167
def nIsOne : Nat := 166
def napproximate : Nat := 161
def nnegL : Nat := 164
def nupdateFactorsDecompose : Nat := 162
def nfromMont : Nat := 127
noncomputable def C1 : Ctx := ⟨cTy1, cFn1, cEx, [], foldF⟩
theorem C1_ok : CtxOk Tryz.prog FD C1 :=
  ctx_more (C := C1) C0_ok rfl rfl (by kernel_rfl) (by kernel_rfl) (by kernel_rfl) (by kernel_rfl) (by kernel_rfl)
theorem bitLenAux_eq : ∀ (f x : Nat), x < 2 ^ f → Lib.bitLenAux f x = blen x
  | 0, x, h => by
    have : x = 0 := by omega
    subst this; rfl
  | f + 1, x, h => by
    unfold Lib.bitLenAux
    split
    · rename_i h0; subst h0; rfl
    · rename_i h0
      rw [bitLenAux_eq f (x / 2) (by rw [Nat.pow_succ] at h; omega)]
      unfold blen
      rw [if_neg h0, Nat.log2_def x]
      by_cases h2 : x / 2 = 0
      · rw [if_pos h2, if_neg (by omega)]
      · rw [if_neg h2, if_pos (by omega)]; omega
theorem len64_ok : PrimOK Tryz.prog FD 179 (.pf 3 [.u64] [.i64]) := by
  intro w ns hn hd
  match ns, hn with
  | [a], _ =>
    have hd : isW a := hd
    refine ⟨rfl, (Tryz.bits_Len64 a w hd.1 (by have := hd.2; simp only [Int.reducePow] at this; omega)).mono ?_⟩
    rintro e w' ⟨rfl, rfl⟩
    refine ⟨?_, Keeps.refl _ _⟩
    have : Lib.bitLen a.toNat = blen a.toNat := bitLenAux_eq 64 _ (by have h1 := hd.1; have h2 := hd.2; simp only [Int.reducePow, Nat.reducePow] at *; omega)
    rw [this]; rfl
def pr10 : List (Nat × PrimS) := [(nMul64, .pf 0 [.u64, .u64] [.u64, .u64]), (nsmallerThanModulus, .tm 0 4), (179, .pf 3 [.u64] [.i64])]
noncomputable def call10 : CallF := callS C1 lo0 pr10 40 10
theorem call10_ok : CallOK Tryz.prog FD call10 := callS_ok C1_ok mixed lo0_ok (prims_ok (l := pr10) ⟨mul64_ok, smaller_ok, len64_ok, trivial⟩ (by kernel_rfl)) 40 10
theorem bitlen_ok : PrimOK Tryz.prog FD nBitLen (.rd 10 4 [] [.i64]) := bitlen_leaf call10_ok (PT.chk_of (by kernel_rfl))
theorem apx_ok : PrimOK Tryz.prog FD napproximate (.rd 11 4 [.i64] [.u64]) := apx_leaf call10_ok (PT.chk_of (by kernel_rfl))
theorem lc_ok : PrimOK Tryz.prog FD nlinearCombNonModular (.lc 12) := lc_leaf call10_ok (fun va vb vc vd => PT.chk_of (by kernel_rfl)) (PT.chk_of (by kernel_rfl)) (PT.chk_of (by kernel_rfl))
theorem halve_ok : PrimOK Tryz.prog FD nHalve (.g ⟨8, [(1, true)], [], false, 0⟩) := halve_leaf call10_ok (PT.chk_of (by kernel_rfl))
end Go.Proofs.YtnmkmbjbaagojaaGreatDoor
