/- A part of the proof of laws.FnPairUneven. -/
import Derived.Test.YtnmkmbjbaagojaaGreatDoorK11
import Derived.Test.YtnmkmbjbaagojaaGreatDoorK12
import Derived.Test.YtnmkmbjbaagojaaGreatDoorProg
namespace Go.Proofs.YtnmkmbjbaagojaaGreatDoor
open Go
set_option maxRecDepth 100000
set_option linter.unusedVariables false
set_option linter.unusedSimpArgs false
/-! the words' leaves of this program -/
noncomputable def cTy : List (Nat × TyI) := [(22, ⟨1, false, [.int .u64 0], [], none, some .u64, 2, none, none, true, []⟩),
 (48, ⟨4, true, [.int .u64 0, .int .u64 0, .int .u64 0, .int .u64 0], [], some (4, 1), none, 8, none, none, true, []⟩),
 (98, ⟨1, false, [.pointer none], [], none, none, 4, none, some 4, true, []⟩)]
noncomputable def cFn : List (Nat × Func) := [(71, Tryz.f71), (118, Tryz.f118), (120, Tryz.f120), (143, Tryz.f143), (123, Tryz.f123), (124, Tryz.f124), (122, Tryz.f122), (82, Tryz.f82), (59, Tryz.f59), (110, Tryz.f110), (128, Tryz.f128), (146, Tryz.f146), (166, Tryz.f166)]
def cEx : List (Nat × Nat × List IntKind × List IntKind) := [(119, 1, [.u64, .u64, .u64], [.u64, .u64]), (121, 2, [.u64, .u64, .u64], [.u64, .u64])]
def nMul : Nat := 71
def nSquare : Nat := 143
def nAdd : Nat := 123
def nSub : Nat := 124
def nDouble : Nat := 122
def nNeg : Nat := 82
def nIsZero : Nat := 59
def nEqual : Nat := 128
def nsmallerThanModulus : Nat := 120
def nInverse : Nat := 144
def nMul64 : Nat := 118
noncomputable def C0 : Ctx := ⟨cTy, cFn, cEx, [], foldF⟩
def lo0 (a b c d : Nat) : Bool := okLit a b c d
theorem C0_ok : CtxOk Tryz.prog FD C0 :=
  ctx_words (fa := Tryz.f119) (fs := Tryz.f121) rfl rfl (by kernel_rfl) (by kernel_rfl) (by kernel_rfl) (by kernel_rfl) (by kernel_rfl) (by kernel_rfl) (by kernel_rfl) (by kernel_rfl) (by kernel_rfl) (by kernel_rfl) (by kernel_rfl) (by kernel_rfl) (by kernel_rfl) (by kernel_rfl) (by kernel_rfl)
theorem mixed : Tryz.prog.follows .mixedOrders = true := by kernel_rfl
theorem lo0_ok : ∀ a b c d, lo0 a b c d = true → FD.litOk a b c d = true := fun _ _ _ _ h => h
noncomputable def call00 : CallF := callS C0 lo0 [] 40 10
theorem call00_ok : CallOK Tryz.prog FD call00 := callS_ok C0_ok mixed lo0_ok (fun f p h => by simp [lk] at h) 40 10
theorem mul64_ok : PrimOK Tryz.prog FD nMul64 (.pf 0 [.u64, .u64] [.u64, .u64]) := mul64_leaf call00_ok (PT.chk_of (by kernel_rfl))
theorem smaller_ok : PrimOK Tryz.prog FD nsmallerThanModulus (.tm 0 4) := tm_leaf call00_ok (PT.chk_of (by kernel_rfl))
theorem isZero_ok : PrimOK Tryz.prog FD nIsZero (.p (.t1 0)) := t1_leaf call00_ok (PT.chk_of (by kernel_rfl))
theorem equal_ok : PrimOK Tryz.prog FD nEqual (.p (.t2 0)) := t2_leaf call00_ok ⟨PT.chk_of (by kernel_rfl), PT.chk_of (by kernel_rfl)⟩
def isFn (P : Program) (f : Nat) : Bool := match P.funcs[f]? with
  | some g => !(g.name == "runtime.NumGoroutine") && g.body.isSome
  | none => false
theorem isFn_ok {P : Program} {f : Nat} (h : isFn P f = true) : ∃ g, P.funcs[f]? = some g ∧ g.name ≠ "runtime.NumGoroutine" ∧ g.body.isSome = true := by
  unfold isFn at h
  split at h
  · rename_i g hg
    simp only [Bool.and_eq_true] at h
    exact ⟨g, hg, by simpa using h.1, h.2⟩
  · simp at h
def PrimsOK (P : Program) : List (Nat × PrimS) → Prop
  | [] => True
  | (f, p) :: r => PrimOK P FD f p ∧ PrimsOK P r
theorem prims_ok {P : Program} : ∀ {l : List (Nat × PrimS)}, PrimsOK P l → l.all (fun p => isFn P p.1) = true → ∀ f p, lk l f = some p → PrimOK P FD f p ∧ ∃ g, P.funcs[f]? = some g ∧ g.name ≠ "runtime.NumGoroutine" ∧ g.body.isSome = true
  | [], _, _, f, p, h => by simp [lk] at h
  | (f0, p0) :: r, hp, hf, f, p, h => by
    simp only [List.all_cons, Bool.and_eq_true] at hf
    simp only [lk] at h
    split at h
    · rename_i e
      have e := Nat.eq_of_beq_eq_true e
      subst e
      simp only [Option.some.injEq] at h; subst h
      exact ⟨hp.1, isFn_ok hf.1⟩
    · exact prims_ok hp.2 hf.2 f p h
def pr0 : List (Nat × PrimS) := [(nMul64, .pf 0 [.u64, .u64] [.u64, .u64]), (nsmallerThanModulus, .tm 0 4)]
noncomputable def call0 : CallF := callS C0 lo0 pr0 40 10
theorem call0_ok : CallOK Tryz.prog FD call0 := callS_ok C0_ok mixed lo0_ok (prims_ok (l := pr0) ⟨mul64_ok, smaller_ok, trivial⟩ (by kernel_rfl)) 40 10
theorem mul_ok : PrimOK Tryz.prog FD nMul (.p (.ebin 0)) :=
  ebin_leaf call0_ok (T := MulT) ⟨fun a b c d => PT.chk_of (by kernel_rfl), PT.chk_of (by kernel_rfl), PT.chk_of (by kernel_rfl), fun a b c d => PT.chk_of (by kernel_rfl), PT.chk_of (by kernel_rfl)⟩ ⟨by kernel_rfl, by kernel_rfl, fun _ _ _ => rfl⟩ Mul_val
theorem add_ok : PrimOK Tryz.prog FD nAdd (.p (.ebin 1)) :=
  ebin_leaf call0_ok (T := AddT) ⟨fun a b c d => PT.chk_of (by kernel_rfl), PT.chk_of (by kernel_rfl), PT.chk_of (by kernel_rfl), fun a b c d => PT.chk_of (by kernel_rfl), PT.chk_of (by kernel_rfl)⟩ ⟨by kernel_rfl, by kernel_rfl, fun _ _ _ => rfl⟩ Add_val
theorem sub_ok : PrimOK Tryz.prog FD nSub (.p (.ebin 2)) :=
  ebin_leaf call0_ok (T := SubT) ⟨fun a b c d => PT.chk_of (by kernel_rfl), PT.chk_of (by kernel_rfl), PT.chk_of (by kernel_rfl), fun a b c d => PT.chk_of (by kernel_rfl), PT.chk_of (by kernel_rfl)⟩ ⟨by kernel_rfl, by kernel_rfl, fun _ _ _ => rfl⟩ Sub_val
theorem square_ok : PrimOK Tryz.prog FD nSquare (.p (.eun 0)) :=
  eun_leaf call0_ok (T := SquareT) ⟨fun a b c d => PT.chk_of (by kernel_rfl), PT.chk_of (by kernel_rfl)⟩ ⟨by kernel_rfl, fun _ _ => rfl⟩ Square_val
theorem double_ok : PrimOK Tryz.prog FD nDouble (.p (.eun 1)) :=
  eun_leaf call0_ok (T := DoubleT) ⟨fun a b c d => PT.chk_of (by kernel_rfl), PT.chk_of (by kernel_rfl)⟩ ⟨by kernel_rfl, fun _ _ => rfl⟩ Double_val
theorem neg_ok : PrimOK Tryz.prog FD nNeg (.p (.eun 2)) :=
  eun_leaf call0_ok (T := NegT) ⟨fun a b c d => PT.chk_of (by kernel_rfl), PT.chk_of (by kernel_rfl)⟩ ⟨by kernel_rfl, fun _ _ => rfl⟩ Neg_val
/-- the field's functions but the inverse -/
def pr1 : List (Nat × PrimS) := [(nMul, .p (.ebin 0)), (nAdd, .p (.ebin 1)), (nSub, .p (.ebin 2)), (nSquare, .p (.eun 0)), (nDouble, .p (.eun 1)), (nNeg, .p (.eun 2)), (nIsZero, .p (.t1 0)), (nEqual, .p (.t2 0))]
theorem pr1_ok : PrimsOK Tryz.prog pr1 := ⟨mul_ok, add_ok, sub_ok, square_ok, double_ok, neg_ok, isZero_ok, equal_ok, trivial⟩
end Go.Proofs.YtnmkmbjbaagojaaGreatDoor
