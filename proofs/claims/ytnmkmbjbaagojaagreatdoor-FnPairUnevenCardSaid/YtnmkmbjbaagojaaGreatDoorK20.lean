/- A part of the proof of laws.FnPairUneven. -/
import Derived.Test.YtnmkmbjbaagojaaGreatDoorK12
namespace Go.Proofs.YtnmkmbjbaagojaaGreatDoor
open Go
set_option maxRecDepth 100000
set_option linter.unusedVariables false
set_option linter.unusedSimpArgs false
/-! is it one? -/
def yOne (i : Nat) : IE := match i with | 0 => .lit 15230403791020821917 | 1 => .lit 754611498739239741 | 2 => .lit 7381016538464732716 | _ => .lit 1011752739694698287
theorem yOne_ok (V : VE FD) : ∀ i, i < 4 → (yOne i).den V = wordN (mont 1) i
  | 0, _ => by show (15230403791020821917 : Int) = _; kernel_rfl
  | 1, _ => by show (754611498739239741 : Int) = _; kernel_rfl
  | 2, _ => by show (7381016538464732716 : Int) = _; kernel_rfl
  | 3, _ => by show (1011752739694698287 : Int) = _; kernel_rfl
section
variable {P : Program}
def OneChk (call : CallF) (f : Nat) : Prop := (EqualT (nm 0) yOne [(false, cl 0)]).chk (fun ds => call f [pS 0] ⟨[(false, cl 0)], 0, 8, [], ds⟩) [] []
theorem one_leaf {call : CallF} (hcall : CallOK P FD call) {f : Nat} (hchk : OneChk call f) : PrimOK P FD f (.p (.t1 1)) := by
  intro w b o (e1 : Fp) hc
  have hc : HasC w b o (words4 (D := FD) e1) := hc
  obtain ⟨V', ha, hp⟩ := PT.run hcall _ hchk (by kernel_rfl) rfl rfl (V2 e1 e1) (k8_ok e1 e1) (S := fun _ _ => False) (w0 := w) (B := [(b, o)]) (us := [pt b o])
      ((rep0 _ w (V2 e1 e1) 8 []).more1 (b := b) (o := o) (c := cl 0) (cl0_is e1 e1 _) hc nohd) ⟨⟨b, o, rfl, rfl⟩, trivial⟩
  have := eq_val (e1 := e1) (e2 := 1) (nm0_den ha) (yOne_ok V') hp
  refine this.mono ?_
  rintro e w' ⟨u, X, rfl, hr, hu⟩
  have hu : u = .bool (decide (e1 = 1)) := hu
  exact ⟨by rw [hu]; rfl, hr.keeps⟩
end
end Go.Proofs.YtnmkmbjbaagojaaGreatDoor
