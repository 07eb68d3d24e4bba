/- A part of the proof of laws.FnPairUneven. -/
import Derived.Test.YtnmkmbjbaagojaaGreatDoorK35
import Derived.Test.YtnmkmbjbaagojaaGreatDoorK36
import Derived.Test.YtnmkmbjbaagojaaGreatDoorK37
import Derived.Test.YtnmkmbjbaagojaaGreatDoorK39
import Derived.Test.YtnmkmbjbaagojaaGreatDoorK40
import Derived.Test.YtnmkmbjbaagojaaGreatDoorK41
namespace Go.Proofs.YtnmkmbjbaagojaaGreatDoor
open Go
set_option maxRecDepth 100000
set_option linter.unusedVariables false
set_option linter.unusedSimpArgs false
/-! the loop of the pairing -/
theorem ml_fn : lk C4.fn 15 = some Tryz.f15 := by kernel_rfl
theorem ml_body : Tryz.f15.body = some mlBody := by kernel_rfl
theorem ml_nt : Tryz.f15.ntmps = 427 := by kernel_rfl
theorem ml_res (ca cb : Nat) : resList C4 (mkT (zipT tml6 (lml6 ca cb))) ⟨mml6, 0, 0, [], []⟩ Tryz.f15.results.toList = some vMs := by kernel_rfl
theorem miller_ok : KOK Tryz.prog nMiller [gK, .s vA3 3 3, .s vB3 3 3] (.tup [aggS vM, .c (.lit .nilIface)]) := by
  refine kok_two fun ca cb => ?_
  intro w us hk hp
  have V0 : VE FD := ⟨fun _ => (0 : Fp), fun _ => 0⟩
  obtain ⟨V, _, hpost⟩ := tM.solve tM_ok V0 trivial
  have h0 : OkL V lM0 := trivial
  have p0 : (ptL rwM (.done [] 8026 0 vMs)).post V (fun _ _ => True) := hpost
  obtain ⟨h1, p1, r0⟩ := chunk_ok2 cM0 h0 p0
  obtain ⟨h2, p2, r1⟩ := chunk_ok2 cM1 h1 p1
  obtain ⟨h3, p3, r2⟩ := chunk_ok2 cM2 h2 p2
  obtain ⟨h4, p4, r3⟩ := chunk_ok2 cM3 h3 p3
  obtain ⟨h5, p5, r4⟩ := chunk_ok2 cM4 h4 p4
  obtain ⟨h6, p6, r5⟩ := chunk_ok2 cM5 h5 p5
  obtain ⟨_, hend⟩ := chunk_end (res := .tup [aggS vM, .c (.lit .nilIface)]) h6 p6 (by kernel_rfl)
  obtain ⟨B, hr, hu⟩ := repK (V := V) (B := []) (mem := []) rfl rfl hk hp (by intro r m cs b o h; simp at h) (rep0 _ w V 0 [])
  simp only [List.nil_append] at hr hu
  have hw0 : Rep (fun _ _ => False) w V B ⟨memK (asM 0 0), 0, 0, [], []⟩ w := hr
  have hu : SVs V B (argK 0 (asM ca cb)) us := hu
  refine calls_body C4_ok ml_fn ml_body (by rw [ml_nt]; exact Nat.le_of_ble_eq_true rfl) hu fun a0 ha0 => ?_
  rw [ml_nt] at ha0
  refine runXn_sound C4_ok mixed callM_ok (rn0 ca cb) r0 _ a0 w ha0 hw0 _ fun X0 a1 w1 ha1 hw1 => ?_
  refine runXn_sound C4_ok mixed callM_ok (rn1 ca cb) r1 _ a1 w1 ha1 hw1 _ fun X1 a2 w2 ha2 hw2 => ?_
  refine runXn_sound C4_ok mixed callM_ok (rn2 ca cb) r2 _ a2 w2 ha2 hw2 _ fun X2 a3 w3 ha3 hw3 => ?_
  refine runXn_sound C4_ok mixed callM_ok (rn3 ca cb) r3 _ a3 w3 ha3 hw3 _ fun X3 a4 w4 ha4 hw4 => ?_
  refine runXn_sound C4_ok mixed callM_ok (rn4 ca cb) r4 _ a4 w4 ha4 hw4 _ fun X4 a5 w5 ha5 hw5 => ?_
  refine runXn_sound C4_ok mixed callM_ok (rn5 ca cb) r5 _ a5 w5 ha5 hw5 _ fun X5 a6 w6 ha6 hw6 => ?_
  refine goX_ret (P := Tryz.prog) (body_ret C4_ok (ml_res ca cb) ha6 hw6 fun u hu => ?_)
  exact ⟨⟨u, rfl, fun V' B' => hend _ u hu V' B'⟩, hw6.keeps⟩
end Go.Proofs.YtnmkmbjbaagojaaGreatDoor
