/- A part of the proof of laws.FnPairUneven. -/
import Derived.Test.YtnmkmbjbaagojaaGreatDoorK10
namespace Go.Proofs.YtnmkmbjbaagojaaGreatDoor
open Go
set_option maxRecDepth 100000
set_option linter.unusedVariables false
set_option linter.unusedSimpArgs false
/-! what the product and the square come to (printed by a program) -/
theorem Mul_val : BinVal 0 MulT := by
  intro V x y mk K u1 u2 hx hy hp
  obtain ⟨h0, h1, h2, h3, h4, h5, h6, h7, h8, h9, h10, h11, h12, h13, h14, h15, h16, h17, h18, h19, h20, h21, h22, h23, h24, h25, h26, h27, h28, h29, h30, h31, h32, h33, h34, h35, h36, h37, h38, h39, h40, h41, h42, h43, h44, h45, h46, h47, h48, h49, h50, h51, h52, h53, h54, h55, h56, h57, h58, h59, h60, h61, h62, h63, h64, h65, h66, h67, h68, h69, h70, h71, h72, h73, h74, h75, h76, h77, h78, h79, h80, h81, h82, h83, h84, h85, h86, h87, h88, h89, h90, h91, h92, h93, h94, h95, h96, h97, h98, h99, h100, h101, h102, h103, h104, h105, h106, h107, h108, h109, h110, hp⟩ := hp
  have e0 := pf0 h0
  simp only [IE.den_lit, IE.den_var, Nat.reduceAdd, Nat.add_zero] at e0
  have e1 := pf0 h1
  simp only [IE.den_lit, IE.den_var, Nat.reduceAdd, Nat.add_zero] at e1
  have e2 := pf0 h2
  simp only [IE.den_lit, IE.den_var, Nat.reduceAdd, Nat.add_zero] at e2
  have e3 := pf0 h3
  simp only [IE.den_lit, IE.den_var, Nat.reduceAdd, Nat.add_zero] at e3
  have e4 := pf1 h4
  simp only [IE.den_lit, IE.den_var, Nat.reduceAdd, Nat.add_zero] at e4
  have e5 := pf1 h5
  simp only [IE.den_lit, IE.den_var, Nat.reduceAdd, Nat.add_zero] at e5
  have e6 := pf1 h6
  simp only [IE.den_lit, IE.den_var, Nat.reduceAdd, Nat.add_zero] at e6
  have e7 := pf1 h7
  simp only [IE.den_lit, IE.den_var, Nat.reduceAdd, Nat.add_zero] at e7
  have e8 := ibm h8
  simp only [IE.den_lit, IE.den_var, Nat.reduceAdd, Nat.add_zero] at e8
  have e9 := pf0 h9
  simp only [IE.den_lit, IE.den_var, Nat.reduceAdd, Nat.add_zero] at e9
  have e10 := pf1 h10
  simp only [IE.den_lit, IE.den_var, Nat.reduceAdd, Nat.add_zero] at e10
  have e11 := pf0 h11
  simp only [IE.den_lit, IE.den_var, Nat.reduceAdd, Nat.add_zero] at e11
  have e12 := pf1 h12
  simp only [IE.den_lit, IE.den_var, Nat.reduceAdd, Nat.add_zero] at e12
  have e13 := pf0 h13
  simp only [IE.den_lit, IE.den_var, Nat.reduceAdd, Nat.add_zero] at e13
  have e14 := pf1 h14
  simp only [IE.den_lit, IE.den_var, Nat.reduceAdd, Nat.add_zero] at e14
  have e15 := pf0 h15
  simp only [IE.den_lit, IE.den_var, Nat.reduceAdd, Nat.add_zero] at e15
  have e16 := pf1 h16
  simp only [IE.den_lit, IE.den_var, Nat.reduceAdd, Nat.add_zero] at e16
  have e17 := pf1 h17
  simp only [IE.den_lit, IE.den_var, Nat.reduceAdd, Nat.add_zero] at e17
  have e18 := pf1 h18
  simp only [IE.den_lit, IE.den_var, Nat.reduceAdd, Nat.add_zero] at e18
  have e19 := pf1 h19
  simp only [IE.den_lit, IE.den_var, Nat.reduceAdd, Nat.add_zero] at e19
  have e20 := pf1 h20
  simp only [IE.den_lit, IE.den_var, Nat.reduceAdd, Nat.add_zero] at e20
  have e21 := pf1 h21
  simp only [IE.den_lit, IE.den_var, Nat.reduceAdd, Nat.add_zero] at e21
  have e22 := pf1 h22
  simp only [IE.den_lit, IE.den_var, Nat.reduceAdd, Nat.add_zero] at e22
  have e23 := pf1 h23
  simp only [IE.den_lit, IE.den_var, Nat.reduceAdd, Nat.add_zero] at e23
  have e24 := pf0 h24
  simp only [IE.den_lit, IE.den_var, Nat.reduceAdd, Nat.add_zero] at e24
  have e25 := pf1 h25
  simp only [IE.den_lit, IE.den_var, Nat.reduceAdd, Nat.add_zero] at e25
  have e26 := pf0 h26
  simp only [IE.den_lit, IE.den_var, Nat.reduceAdd, Nat.add_zero] at e26
  have e27 := pf1 h27
  simp only [IE.den_lit, IE.den_var, Nat.reduceAdd, Nat.add_zero] at e27
  have e28 := pf0 h28
  simp only [IE.den_lit, IE.den_var, Nat.reduceAdd, Nat.add_zero] at e28
  have e29 := pf1 h29
  simp only [IE.den_lit, IE.den_var, Nat.reduceAdd, Nat.add_zero] at e29
  have e30 := pf0 h30
  simp only [IE.den_lit, IE.den_var, Nat.reduceAdd, Nat.add_zero] at e30
  have e31 := pf1 h31
  simp only [IE.den_lit, IE.den_var, Nat.reduceAdd, Nat.add_zero] at e31
  have e32 := pf1 h32
  simp only [IE.den_lit, IE.den_var, Nat.reduceAdd, Nat.add_zero] at e32
  have e33 := pf1 h33
  simp only [IE.den_lit, IE.den_var, Nat.reduceAdd, Nat.add_zero] at e33
  have e34 := pf1 h34
  simp only [IE.den_lit, IE.den_var, Nat.reduceAdd, Nat.add_zero] at e34
  have e35 := pf1 h35
  simp only [IE.den_lit, IE.den_var, Nat.reduceAdd, Nat.add_zero] at e35
  have e36 := pf1 h36
  simp only [IE.den_lit, IE.den_var, Nat.reduceAdd, Nat.add_zero] at e36
  have e37 := ibm h37
  simp only [IE.den_lit, IE.den_var, Nat.reduceAdd, Nat.add_zero] at e37
  have e38 := pf0 h38
  simp only [IE.den_lit, IE.den_var, Nat.reduceAdd, Nat.add_zero] at e38
  have e39 := pf1 h39
  simp only [IE.den_lit, IE.den_var, Nat.reduceAdd, Nat.add_zero] at e39
  have e40 := pf0 h40
  simp only [IE.den_lit, IE.den_var, Nat.reduceAdd, Nat.add_zero] at e40
  have e41 := pf1 h41
  simp only [IE.den_lit, IE.den_var, Nat.reduceAdd, Nat.add_zero] at e41
  have e42 := pf0 h42
  simp only [IE.den_lit, IE.den_var, Nat.reduceAdd, Nat.add_zero] at e42
  have e43 := pf1 h43
  simp only [IE.den_lit, IE.den_var, Nat.reduceAdd, Nat.add_zero] at e43
  have e44 := pf0 h44
  simp only [IE.den_lit, IE.den_var, Nat.reduceAdd, Nat.add_zero] at e44
  have e45 := pf1 h45
  simp only [IE.den_lit, IE.den_var, Nat.reduceAdd, Nat.add_zero] at e45
  have e46 := pf1 h46
  simp only [IE.den_lit, IE.den_var, Nat.reduceAdd, Nat.add_zero] at e46
  have e47 := pf1 h47
  simp only [IE.den_lit, IE.den_var, Nat.reduceAdd, Nat.add_zero] at e47
  have e48 := pf1 h48
  simp only [IE.den_lit, IE.den_var, Nat.reduceAdd, Nat.add_zero] at e48
  have e49 := pf1 h49
  simp only [IE.den_lit, IE.den_var, Nat.reduceAdd, Nat.add_zero] at e49
  have e50 := pf1 h50
  simp only [IE.den_lit, IE.den_var, Nat.reduceAdd, Nat.add_zero] at e50
  have e51 := pf1 h51
  simp only [IE.den_lit, IE.den_var, Nat.reduceAdd, Nat.add_zero] at e51
  have e52 := pf1 h52
  simp only [IE.den_lit, IE.den_var, Nat.reduceAdd, Nat.add_zero] at e52
  have e53 := pf0 h53
  simp only [IE.den_lit, IE.den_var, Nat.reduceAdd, Nat.add_zero] at e53
  have e54 := pf1 h54
  simp only [IE.den_lit, IE.den_var, Nat.reduceAdd, Nat.add_zero] at e54
  have e55 := pf0 h55
  simp only [IE.den_lit, IE.den_var, Nat.reduceAdd, Nat.add_zero] at e55
  have e56 := pf1 h56
  simp only [IE.den_lit, IE.den_var, Nat.reduceAdd, Nat.add_zero] at e56
  have e57 := pf0 h57
  simp only [IE.den_lit, IE.den_var, Nat.reduceAdd, Nat.add_zero] at e57
  have e58 := pf1 h58
  simp only [IE.den_lit, IE.den_var, Nat.reduceAdd, Nat.add_zero] at e58
  have e59 := pf0 h59
  simp only [IE.den_lit, IE.den_var, Nat.reduceAdd, Nat.add_zero] at e59
  have e60 := pf1 h60
  simp only [IE.den_lit, IE.den_var, Nat.reduceAdd, Nat.add_zero] at e60
  have e61 := pf1 h61
  simp only [IE.den_lit, IE.den_var, Nat.reduceAdd, Nat.add_zero] at e61
  have e62 := pf1 h62
  simp only [IE.den_lit, IE.den_var, Nat.reduceAdd, Nat.add_zero] at e62
  have e63 := pf1 h63
  simp only [IE.den_lit, IE.den_var, Nat.reduceAdd, Nat.add_zero] at e63
  have e64 := pf1 h64
  simp only [IE.den_lit, IE.den_var, Nat.reduceAdd, Nat.add_zero] at e64
  have e65 := pf1 h65
  simp only [IE.den_lit, IE.den_var, Nat.reduceAdd, Nat.add_zero] at e65
  have e66 := ibm h66
  simp only [IE.den_lit, IE.den_var, Nat.reduceAdd, Nat.add_zero] at e66
  have e67 := pf0 h67
  simp only [IE.den_lit, IE.den_var, Nat.reduceAdd, Nat.add_zero] at e67
  have e68 := pf1 h68
  simp only [IE.den_lit, IE.den_var, Nat.reduceAdd, Nat.add_zero] at e68
  have e69 := pf0 h69
  simp only [IE.den_lit, IE.den_var, Nat.reduceAdd, Nat.add_zero] at e69
  have e70 := pf1 h70
  simp only [IE.den_lit, IE.den_var, Nat.reduceAdd, Nat.add_zero] at e70
  have e71 := pf0 h71
  simp only [IE.den_lit, IE.den_var, Nat.reduceAdd, Nat.add_zero] at e71
  have e72 := pf1 h72
  simp only [IE.den_lit, IE.den_var, Nat.reduceAdd, Nat.add_zero] at e72
  have e73 := pf0 h73
  simp only [IE.den_lit, IE.den_var, Nat.reduceAdd, Nat.add_zero] at e73
  have e74 := pf1 h74
  simp only [IE.den_lit, IE.den_var, Nat.reduceAdd, Nat.add_zero] at e74
  have e75 := pf1 h75
  simp only [IE.den_lit, IE.den_var, Nat.reduceAdd, Nat.add_zero] at e75
  have e76 := pf1 h76
  simp only [IE.den_lit, IE.den_var, Nat.reduceAdd, Nat.add_zero] at e76
  have e77 := pf1 h77
  simp only [IE.den_lit, IE.den_var, Nat.reduceAdd, Nat.add_zero] at e77
  have e78 := pf1 h78
  simp only [IE.den_lit, IE.den_var, Nat.reduceAdd, Nat.add_zero] at e78
  have e79 := pf1 h79
  simp only [IE.den_lit, IE.den_var, Nat.reduceAdd, Nat.add_zero] at e79
  have e80 := pf1 h80
  simp only [IE.den_lit, IE.den_var, Nat.reduceAdd, Nat.add_zero] at e80
  have e81 := pf1 h81
  simp only [IE.den_lit, IE.den_var, Nat.reduceAdd, Nat.add_zero] at e81
  have e82 := pf0 h82
  simp only [IE.den_lit, IE.den_var, Nat.reduceAdd, Nat.add_zero] at e82
  have e83 := pf1 h83
  simp only [IE.den_lit, IE.den_var, Nat.reduceAdd, Nat.add_zero] at e83
  have e84 := pf0 h84
  simp only [IE.den_lit, IE.den_var, Nat.reduceAdd, Nat.add_zero] at e84
  have e85 := pf1 h85
  simp only [IE.den_lit, IE.den_var, Nat.reduceAdd, Nat.add_zero] at e85
  have e86 := pf0 h86
  simp only [IE.den_lit, IE.den_var, Nat.reduceAdd, Nat.add_zero] at e86
  have e87 := pf1 h87
  simp only [IE.den_lit, IE.den_var, Nat.reduceAdd, Nat.add_zero] at e87
  have e88 := pf0 h88
  simp only [IE.den_lit, IE.den_var, Nat.reduceAdd, Nat.add_zero] at e88
  have e89 := pf1 h89
  simp only [IE.den_lit, IE.den_var, Nat.reduceAdd, Nat.add_zero] at e89
  have e90 := pf1 h90
  simp only [IE.den_lit, IE.den_var, Nat.reduceAdd, Nat.add_zero] at e90
  have e91 := pf1 h91
  simp only [IE.den_lit, IE.den_var, Nat.reduceAdd, Nat.add_zero] at e91
  have e92 := pf1 h92
  simp only [IE.den_lit, IE.den_var, Nat.reduceAdd, Nat.add_zero] at e92
  have e93 := pf1 h93
  simp only [IE.den_lit, IE.den_var, Nat.reduceAdd, Nat.add_zero] at e93
  have e94 := pf1 h94
  simp only [IE.den_lit, IE.den_var, Nat.reduceAdd, Nat.add_zero] at e94
  have e95 := ibm h95
  simp only [IE.den_lit, IE.den_var, Nat.reduceAdd, Nat.add_zero] at e95
  have e96 := pf0 h96
  simp only [IE.den_lit, IE.den_var, Nat.reduceAdd, Nat.add_zero] at e96
  have e97 := pf1 h97
  simp only [IE.den_lit, IE.den_var, Nat.reduceAdd, Nat.add_zero] at e97
  have e98 := pf0 h98
  simp only [IE.den_lit, IE.den_var, Nat.reduceAdd, Nat.add_zero] at e98
  have e99 := pf1 h99
  simp only [IE.den_lit, IE.den_var, Nat.reduceAdd, Nat.add_zero] at e99
  have e100 := pf0 h100
  simp only [IE.den_lit, IE.den_var, Nat.reduceAdd, Nat.add_zero] at e100
  have e101 := pf1 h101
  simp only [IE.den_lit, IE.den_var, Nat.reduceAdd, Nat.add_zero] at e101
  have e102 := pf0 h102
  simp only [IE.den_lit, IE.den_var, Nat.reduceAdd, Nat.add_zero] at e102
  have e103 := pf1 h103
  simp only [IE.den_lit, IE.den_var, Nat.reduceAdd, Nat.add_zero] at e103
  have e104 := pf1 h104
  simp only [IE.den_lit, IE.den_var, Nat.reduceAdd, Nat.add_zero] at e104
  have e105 := pf1 h105
  simp only [IE.den_lit, IE.den_var, Nat.reduceAdd, Nat.add_zero] at e105
  have e106 := pf1 h106
  simp only [IE.den_lit, IE.den_var, Nat.reduceAdd, Nat.add_zero] at e106
  have e107 := pf1 h107
  simp only [IE.den_lit, IE.den_var, Nat.reduceAdd, Nat.add_zero] at e107
  have e108 := pf1 h108
  simp only [IE.den_lit, IE.den_var, Nat.reduceAdd, Nat.add_zero] at e108
  have e109 := pf1 h109
  simp only [IE.den_lit, IE.den_var, Nat.reduceAdd, Nat.add_zero] at e109
  have e110 := pf1 h110
  simp only [IE.den_lit, IE.den_var, Nat.reduceAdd, Nat.add_zero] at e110
  have wx0 := wordN_isW (mont u1) 0
  have qx0 := hx 0 (by omega)
  rw [← qx0] at wx0
  have wx1 := wordN_isW (mont u1) 1
  have qx1 := hx 1 (by omega)
  rw [← qx1] at wx1
  have wx2 := wordN_isW (mont u1) 2
  have qx2 := hx 2 (by omega)
  rw [← qx2] at wx2
  have wx3 := wordN_isW (mont u1) 3
  have qx3 := hx 3 (by omega)
  rw [← qx3] at wx3
  have wy0 := wordN_isW (mont u2) 0
  have qy0 := hy 0 (by omega)
  rw [← qy0] at wy0
  have wy1 := wordN_isW (mont u2) 1
  have qy1 := hy 1 (by omega)
  rw [← qy1] at wy1
  have wy2 := wordN_isW (mont u2) 2
  have qy2 := hy 2 (by omega)
  rw [← qy2] at wy2
  have wy3 := wordN_isW (mont u2) 3
  have qy3 := hy 3 (by omega)
  rw [← qy3] at wy3
  clear h0 h1 h2 h3 h4 h5 h6 h7 h8 h9 h10 h11 h12 h13 h14 h15 h16 h17 h18 h19 h20 h21 h22 h23 h24 h25 h26 h27 h28 h29 h30 h31 h32 h33 h34 h35 h36 h37 h38 h39 h40 h41 h42 h43 h44 h45 h46 h47 h48 h49 h50 h51 h52 h53 h54 h55 h56 h57 h58 h59 h60 h61 h62 h63 h64 h65 h66 h67 h68 h69 h70 h71 h72 h73 h74 h75 h76 h77 h78 h79 h80 h81 h82 h83 h84 h85 h86 h87 h88 h89 h90 h91 h92 h93 h94 h95 h96 h97 h98 h99 h100 h101 h102 h103 h104 h105 h106 h107 h108 h109 h110
  have z0 : V.it 27 = 0 := red0 e8 e9.1 e10.1 e10.2.1 e10.2.2.1
  have E0 := round0_eq e0.1 e1.1 e2.1 e3.1 e4.1 e5.1 e6.1 e7.1 e9.1 e10.1 e11.1 e12.1 e13.1 e14.1 e15.1 e16.1 e17.1 e18.1 e19.1 e20.1 e21.1 e22.1 e23.1 z0
  have z1 : V.it 84 = 0 := red0 e37 e38.1 e39.1 e39.2.1 e39.2.2.1
  have E1 := round_eq e24.1 e25.1 e26.1 e27.1 e28.1 e29.1 e30.1 e31.1 e32.1 e33.1 e34.1 e35.1 e36.1 e38.1 e39.1 e40.1 e41.1 e42.1 e43.1 e44.1 e45.1 e46.1 e47.1 e48.1 e49.1 e50.1 e51.1 e52.1 z1
  have z2 : V.it 141 = 0 := red0 e66 e67.1 e68.1 e68.2.1 e68.2.2.1
  have E2 := round_eq e53.1 e54.1 e55.1 e56.1 e57.1 e58.1 e59.1 e60.1 e61.1 e62.1 e63.1 e64.1 e65.1 e67.1 e68.1 e69.1 e70.1 e71.1 e72.1 e73.1 e74.1 e75.1 e76.1 e77.1 e78.1 e79.1 e80.1 e81.1 z2
  have z3 : V.it 198 = 0 := red0 e95 e96.1 e97.1 e97.2.1 e97.2.2.1
  have E3 := round_eq e82.1 e83.1 e84.1 e85.1 e86.1 e87.1 e88.1 e89.1 e90.1 e91.1 e92.1 e93.1 e94.1 e96.1 e97.1 e98.1 e99.1 e100.1 e101.1 e102.1 e103.1 e104.1 e105.1 e106.1 e107.1 e108.1 e109.1 e110.1 z3
  have hY := mont_val hy
  have hX := mont_val hx
  have hYn := val_nonneg wy0.1 wy1.1 wy2.1 wy3.1
  have hYq := mont_ltI u2
  rw [← hY] at hYq
  have B0 := round_bd E0 (Yq_pos hYn) hYn hYq (S_le wx0 wy0 wy1 wy2 wy3) (emod_w e8).1 (emod_w e8).2 (val_nonneg e18.2.1 e19.2.1 e22.2.1 e23.2.1) (sum4_nonneg e7.2.2.2.1 e17.2.2.2.1 e21.2.2.2.1 e23.2.2.2.1)
  have B1 := round_bd E1 B0.2.1 hYn hYq (S_le wx1 wy0 wy1 wy2 wy3) (emod_w e37).1 (emod_w e37).2 (val_nonneg e47.2.1 e48.2.1 e51.2.1 e52.2.1) (sum5_nonneg e32.2.2.2.1 e36.2.2.2.1 e46.2.2.2.1 e50.2.2.2.1 e52.2.2.2.1)
  have B2 := round_bd E2 B1.2.1 hYn hYq (S_le wx2 wy0 wy1 wy2 wy3) (emod_w e66).1 (emod_w e66).2 (val_nonneg e76.2.1 e77.2.1 e80.2.1 e81.2.1) (sum5_nonneg e61.2.2.2.1 e65.2.2.2.1 e75.2.2.2.1 e79.2.2.2.1 e81.2.2.2.1)
  have B3 := round_bd E3 B2.2.1 hYn hYq (S_le wx3 wy0 wy1 wy2 wy3) (emod_w e95).1 (emod_w e95).2 (val_nonneg e105.2.1 e106.2.1 e109.2.1 e110.2.1) (sum5_nonneg e90.2.2.2.1 e94.2.2.2.1 e104.2.2.2.1 e108.2.2.2.1 e110.2.2.2.1)
  have F := fin_eq B0.2.2 B1.2.2 B2.2.2 B3.2.2
  rw [hX, hY] at F
  have hlt := B3.2.1
  rw [hY] at hlt
  rcases hp with ⟨ht, hk⟩ | ⟨ht, g0, g1, g2, g3, hk⟩
  · have ht := tm_t ht
    simp only [IE.den_lit, IE.den_var] at ht
    exact ⟨_, hk, words_is (words_mul ⟨e105.2.1, e105.2.2.1⟩ ⟨e106.2.1, e106.2.2.1⟩ ⟨e109.2.1, e109.2.2.1⟩ ⟨e110.2.1, e110.2.2.1⟩ ht F)⟩
  · have ht := tm_f ht
    have g0 := pf2 g0
    have g1 := pf2 g1
    have g2 := pf2 g2
    have g3 := pf2 g3
    simp only [IE.den_lit, IE.den_var, Nat.reduceAdd, Nat.add_zero] at ht g0 g1 g2 g3
    have hs := sub_q g0.1 g1.1 g2.1 g3.1 g0.2.1 g0.2.2.1 g1.2.1 g1.2.2.1 g2.2.1 g2.2.2.1 g3.2.1 g3.2.2.1 g3.2.2.2.1 ht
    refine ⟨_, hk, words_is (words_mul ⟨g0.2.1, g0.2.2.1⟩ ⟨g1.2.1, g1.2.2.1⟩ ⟨g2.2.1, g2.2.2.1⟩ ⟨g3.2.1, g3.2.2.1⟩ (two_q hs hlt (mont_ltI u2)) (sub_eq hs F))⟩
theorem Square_val : UnVal 0 SquareT := by
  intro V x mk K u1 hx hp
  obtain ⟨h0, h1, h2, h3, h4, h5, h6, h7, h8, h9, h10, h11, h12, h13, h14, h15, h16, h17, h18, h19, h20, h21, h22, h23, h24, h25, h26, h27, h28, h29, h30, h31, h32, h33, h34, h35, h36, h37, h38, h39, h40, h41, h42, h43, h44, h45, h46, h47, h48, h49, h50, h51, h52, h53, h54, h55, h56, h57, h58, h59, h60, h61, h62, h63, h64, h65, h66, h67, h68, h69, h70, h71, h72, h73, h74, h75, h76, h77, h78, h79, h80, h81, h82, h83, h84, h85, h86, h87, h88, h89, h90, h91, h92, h93, h94, h95, h96, h97, h98, h99, h100, h101, h102, h103, h104, h105, h106, h107, h108, h109, h110, hp⟩ := hp
  have e0 := pf0 h0
  simp only [IE.den_lit, IE.den_var, Nat.reduceAdd, Nat.add_zero] at e0
  have e1 := pf0 h1
  simp only [IE.den_lit, IE.den_var, Nat.reduceAdd, Nat.add_zero] at e1
  have e2 := pf0 h2
  simp only [IE.den_lit, IE.den_var, Nat.reduceAdd, Nat.add_zero] at e2
  have e3 := pf0 h3
  simp only [IE.den_lit, IE.den_var, Nat.reduceAdd, Nat.add_zero] at e3
  have e4 := pf1 h4
  simp only [IE.den_lit, IE.den_var, Nat.reduceAdd, Nat.add_zero] at e4
  have e5 := pf1 h5
  simp only [IE.den_lit, IE.den_var, Nat.reduceAdd, Nat.add_zero] at e5
  have e6 := pf1 h6
  simp only [IE.den_lit, IE.den_var, Nat.reduceAdd, Nat.add_zero] at e6
  have e7 := pf1 h7
  simp only [IE.den_lit, IE.den_var, Nat.reduceAdd, Nat.add_zero] at e7
  have e8 := ibm h8
  simp only [IE.den_lit, IE.den_var, Nat.reduceAdd, Nat.add_zero] at e8
  have e9 := pf0 h9
  simp only [IE.den_lit, IE.den_var, Nat.reduceAdd, Nat.add_zero] at e9
  have e10 := pf1 h10
  simp only [IE.den_lit, IE.den_var, Nat.reduceAdd, Nat.add_zero] at e10
  have e11 := pf0 h11
  simp only [IE.den_lit, IE.den_var, Nat.reduceAdd, Nat.add_zero] at e11
  have e12 := pf1 h12
  simp only [IE.den_lit, IE.den_var, Nat.reduceAdd, Nat.add_zero] at e12
  have e13 := pf0 h13
  simp only [IE.den_lit, IE.den_var, Nat.reduceAdd, Nat.add_zero] at e13
  have e14 := pf1 h14
  simp only [IE.den_lit, IE.den_var, Nat.reduceAdd, Nat.add_zero] at e14
  have e15 := pf0 h15
  simp only [IE.den_lit, IE.den_var, Nat.reduceAdd, Nat.add_zero] at e15
  have e16 := pf1 h16
  simp only [IE.den_lit, IE.den_var, Nat.reduceAdd, Nat.add_zero] at e16
  have e17 := pf1 h17
  simp only [IE.den_lit, IE.den_var, Nat.reduceAdd, Nat.add_zero] at e17
  have e18 := pf1 h18
  simp only [IE.den_lit, IE.den_var, Nat.reduceAdd, Nat.add_zero] at e18
  have e19 := pf1 h19
  simp only [IE.den_lit, IE.den_var, Nat.reduceAdd, Nat.add_zero] at e19
  have e20 := pf1 h20
  simp only [IE.den_lit, IE.den_var, Nat.reduceAdd, Nat.add_zero] at e20
  have e21 := pf1 h21
  simp only [IE.den_lit, IE.den_var, Nat.reduceAdd, Nat.add_zero] at e21
  have e22 := pf1 h22
  simp only [IE.den_lit, IE.den_var, Nat.reduceAdd, Nat.add_zero] at e22
  have e23 := pf1 h23
  simp only [IE.den_lit, IE.den_var, Nat.reduceAdd, Nat.add_zero] at e23
  have e24 := pf0 h24
  simp only [IE.den_lit, IE.den_var, Nat.reduceAdd, Nat.add_zero] at e24
  have e25 := pf1 h25
  simp only [IE.den_lit, IE.den_var, Nat.reduceAdd, Nat.add_zero] at e25
  have e26 := pf0 h26
  simp only [IE.den_lit, IE.den_var, Nat.reduceAdd, Nat.add_zero] at e26
  have e27 := pf1 h27
  simp only [IE.den_lit, IE.den_var, Nat.reduceAdd, Nat.add_zero] at e27
  have e28 := pf0 h28
  simp only [IE.den_lit, IE.den_var, Nat.reduceAdd, Nat.add_zero] at e28
  have e29 := pf1 h29
  simp only [IE.den_lit, IE.den_var, Nat.reduceAdd, Nat.add_zero] at e29
  have e30 := pf0 h30
  simp only [IE.den_lit, IE.den_var, Nat.reduceAdd, Nat.add_zero] at e30
  have e31 := pf1 h31
  simp only [IE.den_lit, IE.den_var, Nat.reduceAdd, Nat.add_zero] at e31
  have e32 := pf1 h32
  simp only [IE.den_lit, IE.den_var, Nat.reduceAdd, Nat.add_zero] at e32
  have e33 := pf1 h33
  simp only [IE.den_lit, IE.den_var, Nat.reduceAdd, Nat.add_zero] at e33
  have e34 := pf1 h34
  simp only [IE.den_lit, IE.den_var, Nat.reduceAdd, Nat.add_zero] at e34
  have e35 := pf1 h35
  simp only [IE.den_lit, IE.den_var, Nat.reduceAdd, Nat.add_zero] at e35
  have e36 := pf1 h36
  simp only [IE.den_lit, IE.den_var, Nat.reduceAdd, Nat.add_zero] at e36
  have e37 := ibm h37
  simp only [IE.den_lit, IE.den_var, Nat.reduceAdd, Nat.add_zero] at e37
  have e38 := pf0 h38
  simp only [IE.den_lit, IE.den_var, Nat.reduceAdd, Nat.add_zero] at e38
  have e39 := pf1 h39
  simp only [IE.den_lit, IE.den_var, Nat.reduceAdd, Nat.add_zero] at e39
  have e40 := pf0 h40
  simp only [IE.den_lit, IE.den_var, Nat.reduceAdd, Nat.add_zero] at e40
  have e41 := pf1 h41
  simp only [IE.den_lit, IE.den_var, Nat.reduceAdd, Nat.add_zero] at e41
  have e42 := pf0 h42
  simp only [IE.den_lit, IE.den_var, Nat.reduceAdd, Nat.add_zero] at e42
  have e43 := pf1 h43
  simp only [IE.den_lit, IE.den_var, Nat.reduceAdd, Nat.add_zero] at e43
  have e44 := pf0 h44
  simp only [IE.den_lit, IE.den_var, Nat.reduceAdd, Nat.add_zero] at e44
  have e45 := pf1 h45
  simp only [IE.den_lit, IE.den_var, Nat.reduceAdd, Nat.add_zero] at e45
  have e46 := pf1 h46
  simp only [IE.den_lit, IE.den_var, Nat.reduceAdd, Nat.add_zero] at e46
  have e47 := pf1 h47
  simp only [IE.den_lit, IE.den_var, Nat.reduceAdd, Nat.add_zero] at e47
  have e48 := pf1 h48
  simp only [IE.den_lit, IE.den_var, Nat.reduceAdd, Nat.add_zero] at e48
  have e49 := pf1 h49
  simp only [IE.den_lit, IE.den_var, Nat.reduceAdd, Nat.add_zero] at e49
  have e50 := pf1 h50
  simp only [IE.den_lit, IE.den_var, Nat.reduceAdd, Nat.add_zero] at e50
  have e51 := pf1 h51
  simp only [IE.den_lit, IE.den_var, Nat.reduceAdd, Nat.add_zero] at e51
  have e52 := pf1 h52
  simp only [IE.den_lit, IE.den_var, Nat.reduceAdd, Nat.add_zero] at e52
  have e53 := pf0 h53
  simp only [IE.den_lit, IE.den_var, Nat.reduceAdd, Nat.add_zero] at e53
  have e54 := pf1 h54
  simp only [IE.den_lit, IE.den_var, Nat.reduceAdd, Nat.add_zero] at e54
  have e55 := pf0 h55
  simp only [IE.den_lit, IE.den_var, Nat.reduceAdd, Nat.add_zero] at e55
  have e56 := pf1 h56
  simp only [IE.den_lit, IE.den_var, Nat.reduceAdd, Nat.add_zero] at e56
  have e57 := pf0 h57
  simp only [IE.den_lit, IE.den_var, Nat.reduceAdd, Nat.add_zero] at e57
  have e58 := pf1 h58
  simp only [IE.den_lit, IE.den_var, Nat.reduceAdd, Nat.add_zero] at e58
  have e59 := pf0 h59
  simp only [IE.den_lit, IE.den_var, Nat.reduceAdd, Nat.add_zero] at e59
  have e60 := pf1 h60
  simp only [IE.den_lit, IE.den_var, Nat.reduceAdd, Nat.add_zero] at e60
  have e61 := pf1 h61
  simp only [IE.den_lit, IE.den_var, Nat.reduceAdd, Nat.add_zero] at e61
  have e62 := pf1 h62
  simp only [IE.den_lit, IE.den_var, Nat.reduceAdd, Nat.add_zero] at e62
  have e63 := pf1 h63
  simp only [IE.den_lit, IE.den_var, Nat.reduceAdd, Nat.add_zero] at e63
  have e64 := pf1 h64
  simp only [IE.den_lit, IE.den_var, Nat.reduceAdd, Nat.add_zero] at e64
  have e65 := pf1 h65
  simp only [IE.den_lit, IE.den_var, Nat.reduceAdd, Nat.add_zero] at e65
  have e66 := ibm h66
  simp only [IE.den_lit, IE.den_var, Nat.reduceAdd, Nat.add_zero] at e66
  have e67 := pf0 h67
  simp only [IE.den_lit, IE.den_var, Nat.reduceAdd, Nat.add_zero] at e67
  have e68 := pf1 h68
  simp only [IE.den_lit, IE.den_var, Nat.reduceAdd, Nat.add_zero] at e68
  have e69 := pf0 h69
  simp only [IE.den_lit, IE.den_var, Nat.reduceAdd, Nat.add_zero] at e69
  have e70 := pf1 h70
  simp only [IE.den_lit, IE.den_var, Nat.reduceAdd, Nat.add_zero] at e70
  have e71 := pf0 h71
  simp only [IE.den_lit, IE.den_var, Nat.reduceAdd, Nat.add_zero] at e71
  have e72 := pf1 h72
  simp only [IE.den_lit, IE.den_var, Nat.reduceAdd, Nat.add_zero] at e72
  have e73 := pf0 h73
  simp only [IE.den_lit, IE.den_var, Nat.reduceAdd, Nat.add_zero] at e73
  have e74 := pf1 h74
  simp only [IE.den_lit, IE.den_var, Nat.reduceAdd, Nat.add_zero] at e74
  have e75 := pf1 h75
  simp only [IE.den_lit, IE.den_var, Nat.reduceAdd, Nat.add_zero] at e75
  have e76 := pf1 h76
  simp only [IE.den_lit, IE.den_var, Nat.reduceAdd, Nat.add_zero] at e76
  have e77 := pf1 h77
  simp only [IE.den_lit, IE.den_var, Nat.reduceAdd, Nat.add_zero] at e77
  have e78 := pf1 h78
  simp only [IE.den_lit, IE.den_var, Nat.reduceAdd, Nat.add_zero] at e78
  have e79 := pf1 h79
  simp only [IE.den_lit, IE.den_var, Nat.reduceAdd, Nat.add_zero] at e79
  have e80 := pf1 h80
  simp only [IE.den_lit, IE.den_var, Nat.reduceAdd, Nat.add_zero] at e80
  have e81 := pf1 h81
  simp only [IE.den_lit, IE.den_var, Nat.reduceAdd, Nat.add_zero] at e81
  have e82 := pf0 h82
  simp only [IE.den_lit, IE.den_var, Nat.reduceAdd, Nat.add_zero] at e82
  have e83 := pf1 h83
  simp only [IE.den_lit, IE.den_var, Nat.reduceAdd, Nat.add_zero] at e83
  have e84 := pf0 h84
  simp only [IE.den_lit, IE.den_var, Nat.reduceAdd, Nat.add_zero] at e84
  have e85 := pf1 h85
  simp only [IE.den_lit, IE.den_var, Nat.reduceAdd, Nat.add_zero] at e85
  have e86 := pf0 h86
  simp only [IE.den_lit, IE.den_var, Nat.reduceAdd, Nat.add_zero] at e86
  have e87 := pf1 h87
  simp only [IE.den_lit, IE.den_var, Nat.reduceAdd, Nat.add_zero] at e87
  have e88 := pf0 h88
  simp only [IE.den_lit, IE.den_var, Nat.reduceAdd, Nat.add_zero] at e88
  have e89 := pf1 h89
  simp only [IE.den_lit, IE.den_var, Nat.reduceAdd, Nat.add_zero] at e89
  have e90 := pf1 h90
  simp only [IE.den_lit, IE.den_var, Nat.reduceAdd, Nat.add_zero] at e90
  have e91 := pf1 h91
  simp only [IE.den_lit, IE.den_var, Nat.reduceAdd, Nat.add_zero] at e91
  have e92 := pf1 h92
  simp only [IE.den_lit, IE.den_var, Nat.reduceAdd, Nat.add_zero] at e92
  have e93 := pf1 h93
  simp only [IE.den_lit, IE.den_var, Nat.reduceAdd, Nat.add_zero] at e93
  have e94 := pf1 h94
  simp only [IE.den_lit, IE.den_var, Nat.reduceAdd, Nat.add_zero] at e94
  have e95 := ibm h95
  simp only [IE.den_lit, IE.den_var, Nat.reduceAdd, Nat.add_zero] at e95
  have e96 := pf0 h96
  simp only [IE.den_lit, IE.den_var, Nat.reduceAdd, Nat.add_zero] at e96
  have e97 := pf1 h97
  simp only [IE.den_lit, IE.den_var, Nat.reduceAdd, Nat.add_zero] at e97
  have e98 := pf0 h98
  simp only [IE.den_lit, IE.den_var, Nat.reduceAdd, Nat.add_zero] at e98
  have e99 := pf1 h99
  simp only [IE.den_lit, IE.den_var, Nat.reduceAdd, Nat.add_zero] at e99
  have e100 := pf0 h100
  simp only [IE.den_lit, IE.den_var, Nat.reduceAdd, Nat.add_zero] at e100
  have e101 := pf1 h101
  simp only [IE.den_lit, IE.den_var, Nat.reduceAdd, Nat.add_zero] at e101
  have e102 := pf0 h102
  simp only [IE.den_lit, IE.den_var, Nat.reduceAdd, Nat.add_zero] at e102
  have e103 := pf1 h103
  simp only [IE.den_lit, IE.den_var, Nat.reduceAdd, Nat.add_zero] at e103
  have e104 := pf1 h104
  simp only [IE.den_lit, IE.den_var, Nat.reduceAdd, Nat.add_zero] at e104
  have e105 := pf1 h105
  simp only [IE.den_lit, IE.den_var, Nat.reduceAdd, Nat.add_zero] at e105
  have e106 := pf1 h106
  simp only [IE.den_lit, IE.den_var, Nat.reduceAdd, Nat.add_zero] at e106
  have e107 := pf1 h107
  simp only [IE.den_lit, IE.den_var, Nat.reduceAdd, Nat.add_zero] at e107
  have e108 := pf1 h108
  simp only [IE.den_lit, IE.den_var, Nat.reduceAdd, Nat.add_zero] at e108
  have e109 := pf1 h109
  simp only [IE.den_lit, IE.den_var, Nat.reduceAdd, Nat.add_zero] at e109
  have e110 := pf1 h110
  simp only [IE.den_lit, IE.den_var, Nat.reduceAdd, Nat.add_zero] at e110
  have wx0 := wordN_isW (mont u1) 0
  have qx0 := hx 0 (by omega)
  rw [← qx0] at wx0
  have wx1 := wordN_isW (mont u1) 1
  have qx1 := hx 1 (by omega)
  rw [← qx1] at wx1
  have wx2 := wordN_isW (mont u1) 2
  have qx2 := hx 2 (by omega)
  rw [← qx2] at wx2
  have wx3 := wordN_isW (mont u1) 3
  have qx3 := hx 3 (by omega)
  rw [← qx3] at wx3
  clear h0 h1 h2 h3 h4 h5 h6 h7 h8 h9 h10 h11 h12 h13 h14 h15 h16 h17 h18 h19 h20 h21 h22 h23 h24 h25 h26 h27 h28 h29 h30 h31 h32 h33 h34 h35 h36 h37 h38 h39 h40 h41 h42 h43 h44 h45 h46 h47 h48 h49 h50 h51 h52 h53 h54 h55 h56 h57 h58 h59 h60 h61 h62 h63 h64 h65 h66 h67 h68 h69 h70 h71 h72 h73 h74 h75 h76 h77 h78 h79 h80 h81 h82 h83 h84 h85 h86 h87 h88 h89 h90 h91 h92 h93 h94 h95 h96 h97 h98 h99 h100 h101 h102 h103 h104 h105 h106 h107 h108 h109 h110
  have z0 : V.it 27 = 0 := red0 e8 e9.1 e10.1 e10.2.1 e10.2.2.1
  have E0 := round0_eq e0.1 e1.1 e2.1 e3.1 e4.1 e5.1 e6.1 e7.1 e9.1 e10.1 e11.1 e12.1 e13.1 e14.1 e15.1 e16.1 e17.1 e18.1 e19.1 e20.1 e21.1 e22.1 e23.1 z0
  have z1 : V.it 84 = 0 := red0 e37 e38.1 e39.1 e39.2.1 e39.2.2.1
  have E1 := round_eq e24.1 e25.1 e26.1 e27.1 e28.1 e29.1 e30.1 e31.1 e32.1 e33.1 e34.1 e35.1 e36.1 e38.1 e39.1 e40.1 e41.1 e42.1 e43.1 e44.1 e45.1 e46.1 e47.1 e48.1 e49.1 e50.1 e51.1 e52.1 z1
  have z2 : V.it 141 = 0 := red0 e66 e67.1 e68.1 e68.2.1 e68.2.2.1
  have E2 := round_eq e53.1 e54.1 e55.1 e56.1 e57.1 e58.1 e59.1 e60.1 e61.1 e62.1 e63.1 e64.1 e65.1 e67.1 e68.1 e69.1 e70.1 e71.1 e72.1 e73.1 e74.1 e75.1 e76.1 e77.1 e78.1 e79.1 e80.1 e81.1 z2
  have z3 : V.it 198 = 0 := red0 e95 e96.1 e97.1 e97.2.1 e97.2.2.1
  have E3 := round_eq e82.1 e83.1 e84.1 e85.1 e86.1 e87.1 e88.1 e89.1 e90.1 e91.1 e92.1 e93.1 e94.1 e96.1 e97.1 e98.1 e99.1 e100.1 e101.1 e102.1 e103.1 e104.1 e105.1 e106.1 e107.1 e108.1 e109.1 e110.1 z3
  have hY := mont_val hx
  have hX := mont_val hx
  have hYn := val_nonneg wx0.1 wx1.1 wx2.1 wx3.1
  have hYq := mont_ltI u1
  rw [← hY] at hYq
  have B0 := round_bd E0 (Yq_pos hYn) hYn hYq (S_le wx0 wx0 wx1 wx2 wx3) (emod_w e8).1 (emod_w e8).2 (val_nonneg e18.2.1 e19.2.1 e22.2.1 e23.2.1) (sum4_nonneg e7.2.2.2.1 e17.2.2.2.1 e21.2.2.2.1 e23.2.2.2.1)
  have B1 := round_bd E1 B0.2.1 hYn hYq (S_le wx1 wx0 wx1 wx2 wx3) (emod_w e37).1 (emod_w e37).2 (val_nonneg e47.2.1 e48.2.1 e51.2.1 e52.2.1) (sum5_nonneg e32.2.2.2.1 e36.2.2.2.1 e46.2.2.2.1 e50.2.2.2.1 e52.2.2.2.1)
  have B2 := round_bd E2 B1.2.1 hYn hYq (S_le wx2 wx0 wx1 wx2 wx3) (emod_w e66).1 (emod_w e66).2 (val_nonneg e76.2.1 e77.2.1 e80.2.1 e81.2.1) (sum5_nonneg e61.2.2.2.1 e65.2.2.2.1 e75.2.2.2.1 e79.2.2.2.1 e81.2.2.2.1)
  have B3 := round_bd E3 B2.2.1 hYn hYq (S_le wx3 wx0 wx1 wx2 wx3) (emod_w e95).1 (emod_w e95).2 (val_nonneg e105.2.1 e106.2.1 e109.2.1 e110.2.1) (sum5_nonneg e90.2.2.2.1 e94.2.2.2.1 e104.2.2.2.1 e108.2.2.2.1 e110.2.2.2.1)
  have F := fin_eq B0.2.2 B1.2.2 B2.2.2 B3.2.2
  rw [hX] at F
  have hlt := B3.2.1
  rw [hY] at hlt
  rcases hp with ⟨ht, hk⟩ | ⟨ht, g0, g1, g2, g3, hk⟩
  · have ht := tm_t ht
    simp only [IE.den_lit, IE.den_var] at ht
    exact ⟨_, hk, words_is (words_mul ⟨e105.2.1, e105.2.2.1⟩ ⟨e106.2.1, e106.2.2.1⟩ ⟨e109.2.1, e109.2.2.1⟩ ⟨e110.2.1, e110.2.2.1⟩ ht F)⟩
  · have ht := tm_f ht
    have g0 := pf2 g0
    have g1 := pf2 g1
    have g2 := pf2 g2
    have g3 := pf2 g3
    simp only [IE.den_lit, IE.den_var, Nat.reduceAdd, Nat.add_zero] at ht g0 g1 g2 g3
    have hs := sub_q g0.1 g1.1 g2.1 g3.1 g0.2.1 g0.2.2.1 g1.2.1 g1.2.2.1 g2.2.1 g2.2.2.1 g3.2.1 g3.2.2.1 g3.2.2.2.1 ht
    refine ⟨_, hk, words_is (words_mul ⟨g0.2.1, g0.2.2.1⟩ ⟨g1.2.1, g1.2.2.1⟩ ⟨g2.2.1, g2.2.2.1⟩ ⟨g3.2.1, g3.2.2.1⟩ (two_q hs hlt (mont_ltI u1)) (sub_eq hs F))⟩
end Go.Proofs.YtnmkmbjbaagojaaGreatDoor
