/- A part of the proof of laws.FnPairUneven. -/
import Derived.Test.YtnmkmbjbaagojaaGreatDoorK10
import Derived.Shelf.Spec.BitsCarry
import Derived.Test.YtnmkmbjbaagojaaGreatDoorK09
namespace Go.Proofs.YtnmkmbjbaagojaaGreatDoor
open Go
set_option maxRecDepth 100000
set_option linter.unusedVariables false
set_option linter.unusedSimpArgs false
theorem pP_eqI : (21888242871839275222246405745257275088696311157297823662689037894645226208583 : Int) = (pP : Int) := by kernel_rfl
theorem mont_add (a b : Fp) : mont (a + b) = (mont a + mont b) % pP := by
  show (a.val + b.val) % pP * mR % pP = (a.val * mR % pP + b.val * mR % pP) % pP
  rw [Nat.mod_mul_mod, Nat.add_mul, ← Nat.add_mod]
theorem mont_zero : mont 0 = 0 := by kernel_rfl
theorem mont_addI {a b : Fp} : (mont (a + b) : Int) = mont a + mont b ∨ (mont (a + b) : Int) = mont a + mont b - 21888242871839275222246405745257275088696311157297823662689037894645226208583 := by
  have h := mont_add a b
  have h1 := mont_lt a
  have h2 := mont_lt b
  rw [pP_eqI]
  generalize mont (a + b) = s at *
  generalize mont a = x at *
  generalize mont b = y at *
  by_cases hlt : x + y < pP
  · rw [Nat.mod_eq_of_lt hlt] at h; left; omega
  · right
    have : (x + y) % pP = x + y - pP := by rw [Nat.mod_eq_sub_mod (by omega), Nat.mod_eq_of_lt (by omega)]
    rw [this] at h; omega
theorem mont_subI {a b : Fp} : (mont (a - b) : Int) = mont a - mont b ∨ (mont (a - b) : Int) = mont a - mont b + 21888242871839275222246405745257275088696311157297823662689037894645226208583 := by
  have h : (a - b) + b = a := ring_id [a, b] (v 0 - v 1 + v 1) (v 0) (by kernel_rfl)
  have := mont_addI (a := a - b) (b := b)
  rw [h] at this
  omega
theorem add_words {x0 x1 x2 x3 y0 y1 y2 y3 s0 s1 s2 s3 c0 c1 c2 c3 X Y : Int} (e0 : s0 + 18446744073709551616 * c0 = x0 + y0 + 0) (e1 : s1 + 18446744073709551616 * c1 = x1 + y1 + c0) (e2 : s2 + 18446744073709551616 * c2 = x2 + y2 + c1) (e3 : s3 + 18446744073709551616 * c3 = x3 + y3 + c2)
    (hX : x0 + 18446744073709551616 * x1 + 340282366920938463463374607431768211456 * x2 + 6277101735386680763835789423207666416102355444464034512896 * x3 = X) (hY : y0 + 18446744073709551616 * y1 + 340282366920938463463374607431768211456 * y2 + 6277101735386680763835789423207666416102355444464034512896 * y3 = Y) (hx : X < 21888242871839275222246405745257275088696311157297823662689037894645226208583) (hy : Y < 21888242871839275222246405745257275088696311157297823662689037894645226208583) (h0 : 0 ≤ s0) (h1 : 0 ≤ s1) (h2 : 0 ≤ s2) (h3 : 0 ≤ s3) (hc : 0 ≤ c3) : s0 + 18446744073709551616 * s1 + 340282366920938463463374607431768211456 * s2 + 6277101735386680763835789423207666416102355444464034512896 * s3 = X + Y := by
  omega
theorem sub_words {x0 x1 x2 x3 y0 y1 y2 y3 s0 s1 s2 s3 c0 c1 c2 c3 X Y : Int} (e0 : s0 + y0 + 0 = x0 + 18446744073709551616 * c0) (e1 : s1 + y1 + c0 = x1 + 18446744073709551616 * c1) (e2 : s2 + y2 + c1 = x2 + 18446744073709551616 * c2) (e3 : s3 + y3 + c2 = x3 + 18446744073709551616 * c3)
    (hX : x0 + 18446744073709551616 * x1 + 340282366920938463463374607431768211456 * x2 + 6277101735386680763835789423207666416102355444464034512896 * x3 = X) (hY : y0 + 18446744073709551616 * y1 + 340282366920938463463374607431768211456 * y2 + 6277101735386680763835789423207666416102355444464034512896 * y3 = Y) : s0 + 18446744073709551616 * s1 + 340282366920938463463374607431768211456 * s2 + 6277101735386680763835789423207666416102355444464034512896 * s3 = X - Y + 115792089237316195423570985008687907853269984665640564039457584007913129639936 * c3 := by
  omega
theorem addq_words {t0 t1 t2 t3 s0 s1 s2 s3 c0 c1 c2 c3 : Int} (e0 : s0 + 18446744073709551616 * c0 = t0 + 4332616871279656263 + 0) (e1 : s1 + 18446744073709551616 * c1 = t1 + 10917124144477883021 + c0) (e2 : s2 + 18446744073709551616 * c2 = t2 + 13281191951274694749 + c1) (e3 : s3 + 18446744073709551616 * c3 = t3 + 3486998266802970665 + c2) :
    s0 + 18446744073709551616 * s1 + 340282366920938463463374607431768211456 * s2 + 6277101735386680763835789423207666416102355444464034512896 * s3 + 115792089237316195423570985008687907853269984665640564039457584007913129639936 * c3 = t0 + 18446744073709551616 * t1 + 340282366920938463463374607431768211456 * t2 + 6277101735386680763835789423207666416102355444464034512896 * t3 + 21888242871839275222246405745257275088696311157297823662689037894645226208583 := by
  omega
theorem sum_t {X Y s : Int} {n m : Nat} (h : s = X + Y) (h1 : s < 21888242871839275222246405745257275088696311157297823662689037894645226208583) (hx : X = (n : Int)) (hy : Y = (m : Int)) {k : Nat} (hk : (k : Int) = n + m ∨ (k : Int) = n + m - 21888242871839275222246405745257275088696311157297823662689037894645226208583) : s = k := by omega
theorem sum_f {X Y s r : Int} {n m : Nat} (h : s = X + Y) (h1 : 21888242871839275222246405745257275088696311157297823662689037894645226208583 ≤ s) (hr : r = s - 21888242871839275222246405745257275088696311157297823662689037894645226208583) (hx : X = (n : Int)) (hy : Y = (m : Int)) {k : Nat} (hk : (k : Int) = n + m ∨ (k : Int) = n + m - 21888242871839275222246405745257275088696311157297823662689037894645226208583) (hl : (k : Int) < 21888242871839275222246405745257275088696311157297823662689037894645226208583) : r = k := by omega
theorem dif_f {X Y s c : Int} {n m : Nat} (h : s = X - Y + 115792089237316195423570985008687907853269984665640564039457584007913129639936 * c) (hc : c = 0) (hs : 0 ≤ s) (hx : X = (n : Int)) (hy : Y = (m : Int)) {k : Nat} (hk : (k : Int) = n - m ∨ (k : Int) = n - m + 21888242871839275222246405745257275088696311157297823662689037894645226208583) (hl : (k : Int) < 21888242871839275222246405745257275088696311157297823662689037894645226208583) (h0 : 0 ≤ (k : Int)) : s = k := by omega
theorem dif_t {X Y s c r c' : Int} {n m : Nat} (h : s = X - Y + 115792089237316195423570985008687907853269984665640564039457584007913129639936 * c) (hc0 : 0 ≤ c) (hc1 : c ≤ 1) (hc : c ≠ 0) (hs : s < 115792089237316195423570985008687907853269984665640564039457584007913129639936) (hr : r + 115792089237316195423570985008687907853269984665640564039457584007913129639936 * c' = s + 21888242871839275222246405745257275088696311157297823662689037894645226208583) (hr0 : 0 ≤ r) (hr1 : r < 115792089237316195423570985008687907853269984665640564039457584007913129639936) (hx : X = (n : Int)) (hy : Y = (m : Int)) (hn : (n : Int) < 21888242871839275222246405745257275088696311157297823662689037894645226208583) (hm : (m : Int) < 21888242871839275222246405745257275088696311157297823662689037894645226208583)
    {k : Nat} (hk : (k : Int) = n - m ∨ (k : Int) = n - m + 21888242871839275222246405745257275088696311157297823662689037894645226208583) (hl : (k : Int) < 21888242871839275222246405745257275088696311157297823662689037894645226208583) : r = k := by omega
theorem val_lt {a b c d : Int} (ha : a < 18446744073709551616) (hb : b < 18446744073709551616) (hc : c < 18446744073709551616) (hd : d < 18446744073709551616) : a + 18446744073709551616 * b + 340282366920938463463374607431768211456 * c + 6277101735386680763835789423207666416102355444464034512896 * d < 115792089237316195423570985008687907853269984665640564039457584007913129639936 := by omega
theorem cmp_eq_t {V : VE FD} {a b : IE} {z : Bool} (h : (flipT true (.cmp .eql a b z)).holds V) : a.den V = b.den V := by
  have h : (a.den V == b.den V) = true := h
  simpa using h
theorem cmp_eq_f {V : VE FD} {a b : IE} {z : Bool} (h : (flipT false (.cmp .eql a b z)).holds V) : a.den V ≠ b.den V := by
  have h : (a.den V == b.den V) = false := h
  simpa using h
theorem cmp_ne_t {V : VE FD} {a b : IE} {z : Bool} (h : (flipT true (.cmp .neq a b z)).holds V) : a.den V ≠ b.den V := by
  have h : (a.den V != b.den V) = true := h
  simpa using h
theorem cmp_ne_f {V : VE FD} {a b : IE} {z : Bool} (h : (flipT false (.cmp .neq a b z)).holds V) : a.den V = b.den V := by
  have h : (a.den V != b.den V) = false := h
  simpa using h
theorem Add_val : BinVal 1 AddT := by
  intro V x y mk K u1 u2 hx hy hp
  obtain ⟨h0, h1, h2, h3, hp⟩ := hp
  have c0 := pf1 h0
  have c1 := pf1 h1
  have c2 := pf1 h2
  have c3 := pf1 h3
  simp only [IE.den_lit, IE.den_var, Nat.reduceAdd, Nat.add_zero] at c0 c1 c2 c3
  have hX := mont_val hx
  have hY := mont_val hy
  have hs := add_words c0.1 c1.1 c2.1 c3.1 hX hY (mont_ltI u1) (mont_ltI u2) c0.2.1 c1.2.1 c2.2.1 c3.2.1 c3.2.2.2.1
  rcases hp with ⟨ht, hk⟩ | ⟨ht, g0, g1, g2, g3, hk⟩
  · have ht := tm_t ht
    simp only [IE.den_var] at ht
    exact ⟨_, hk, words_is (e := u1 + u2) (words_gen ⟨c0.2.1, c0.2.2.1⟩ ⟨c1.2.1, c1.2.2.1⟩ ⟨c2.2.1, c2.2.2.1⟩ ⟨c3.2.1, c3.2.2.1⟩ (sum_t hs ht rfl rfl mont_addI))⟩
  · have ht := tm_f ht
    have g0 := pf2 g0
    have g1 := pf2 g1
    have g2 := pf2 g2
    have g3 := pf2 g3
    simp only [IE.den_lit, IE.den_var, Nat.reduceAdd, Nat.add_zero] at ht g0 g1 g2 g3
    have hr := sub_q g0.1 g1.1 g2.1 g3.1 g0.2.1 g0.2.2.1 g1.2.1 g1.2.2.1 g2.2.1 g2.2.2.1 g3.2.1 g3.2.2.1 g3.2.2.2.1 ht
    exact ⟨_, hk, words_is (e := u1 + u2) (words_gen ⟨g0.2.1, g0.2.2.1⟩ ⟨g1.2.1, g1.2.2.1⟩ ⟨g2.2.1, g2.2.2.1⟩ ⟨g3.2.1, g3.2.2.1⟩ (sum_f hs ht hr rfl rfl mont_addI (mont_ltI _)))⟩
theorem Double_val : UnVal 1 DoubleT := by
  intro V x mk K u1 hx hp
  exact Add_val V x x mk K u1 u1 hx hx hp
theorem Sub_val : BinVal 2 SubT := by
  intro V x y mk K u1 u2 hx hy hp
  obtain ⟨h0, h1, h2, h3, hp⟩ := hp
  have c0 := pf2 h0
  have c1 := pf2 h1
  have c2 := pf2 h2
  have c3 := pf2 h3
  simp only [IE.den_lit, IE.den_var, Nat.reduceAdd, Nat.add_zero] at c0 c1 c2 c3
  have hX := mont_val hx
  have hY := mont_val hy
  have hs := sub_words c0.1 c1.1 c2.1 c3.1 hX hY
  rcases hp with ⟨ht, g0, g1, g2, g3, hk⟩ | ⟨ht, hk⟩
  · have ht := cmp_ne_t ht
    have g0 := pf1 g0
    have g1 := pf1 g1
    have g2 := pf1 g2
    have g3 := pf1 g3
    simp only [IE.den_lit, IE.den_var, Nat.reduceAdd, Nat.add_zero] at ht g0 g1 g2 g3
    have hr := addq_words g0.1 g1.1 g2.1 g3.1
    exact ⟨_, hk, words_is (e := u1 - u2) (words_gen ⟨g0.2.1, g0.2.2.1⟩ ⟨g1.2.1, g1.2.2.1⟩ ⟨g2.2.1, g2.2.2.1⟩ ⟨g3.2.1, g3.2.2.1⟩
      (dif_t hs c3.2.2.2.1 c3.2.2.2.2 ht (val_lt c0.2.2.1 c1.2.2.1 c2.2.2.1 c3.2.2.1) hr (val_nonneg g0.2.1 g1.2.1 g2.2.1 g3.2.1) (val_lt g0.2.2.1 g1.2.2.1 g2.2.2.1 g3.2.2.1) rfl rfl (mont_ltI _) (mont_ltI _) mont_subI (mont_ltI _)))⟩
  · have ht := cmp_ne_f ht
    simp only [IE.den_lit, IE.den_var] at ht
    exact ⟨_, hk, words_is (e := u1 - u2) (words_gen ⟨c0.2.1, c0.2.2.1⟩ ⟨c1.2.1, c1.2.2.1⟩ ⟨c2.2.1, c2.2.2.1⟩ ⟨c3.2.1, c3.2.2.1⟩ (dif_f hs ht (val_nonneg c0.2.1 c1.2.1 c2.2.1 c3.2.1) rfl rfl mont_subI (mont_ltI _) (Int.natCast_nonneg _)))⟩
theorem or_zero {x y : Int} (hx : isW x) (hy : isW y) (h : ibinF .or .u64 x y = 0) : x = 0 ∧ y = 0 := by
  have h1 : IntKind.wrap .u64 ((BitVec.ofInt 64 x ||| BitVec.ofInt 64 y).toNat : Int) = 0 := h
  have h2 : (((BitVec.ofInt 64 x ||| BitVec.ofInt 64 y).toNat : Int)) % 2 ^ 64 = 0 := h1
  have h3 := (BitVec.ofInt 64 x ||| BitVec.ofInt 64 y).isLt
  have h4 : (BitVec.ofInt 64 x ||| BitVec.ofInt 64 y).toNat = 0 := by
    simp only [Int.reducePow, Nat.reducePow] at h2 h3
    omega
  have h5 : BitVec.ofInt 64 x ||| BitVec.ofInt 64 y = 0#64 := BitVec.eq_of_toNat_eq (by rw [h4]; rfl)
  have h6 : BitVec.ofInt 64 x = 0#64 ∧ BitVec.ofInt 64 y = 0#64 := by
    constructor
    · ext i hi
      have := congrArg (fun b : BitVec 64 => b[i]) h5
      simp at this ⊢
      exact this.1
    · ext i hi
      have := congrArg (fun b : BitVec 64 => b[i]) h5
      simp at this ⊢
      exact this.2
  have key : ∀ z : Int, isW z → BitVec.ofInt 64 z = 0#64 → z = 0 := by
    intro z hz he
    have := congrArg BitVec.toNat he
    rw [BitVec.toNat_ofInt] at this
    have h8 : (z % ((2 ^ 64 : Nat) : Int)).toNat = 0 := this
    unfold isW at hz
    simp only [Int.reducePow, Nat.reducePow, Int.cast_ofNat_Int] at h8 hz
    omega
  exact ⟨key x hx h6.1, key y hy h6.2⟩
theorem ibor {V : VE FD} {i : Nat} {a b : IE} (h : (TOp.ibin i .or .u64 a b).holds V) : V.it i = ibinF .or .u64 (a.den V) (b.den V) := h
theorem zero_words {a0 a1 a2 a3 v1 v2 v3 : Int} (h0 : isW a0) (h1 : isW a1) (h2 : isW a2) (h3 : isW a3) (e1 : v1 = ibinF .or .u64 a3 a2) (e2 : v2 = ibinF .or .u64 v1 a1) (e3 : v3 = ibinF .or .u64 v2 a0) :
    v3 = 0 ↔ a0 + 18446744073709551616 * a1 + 340282366920938463463374607431768211456 * a2 + 6277101735386680763835789423207666416102355444464034512896 * a3 = 0 := by
  constructor
  · intro h
    subst e1; subst e2; subst e3
    obtain ⟨p1, p2⟩ := or_zero (wrap_u64 _) h0 h
    obtain ⟨p3, p4⟩ := or_zero (wrap_u64 _) h1 p1
    obtain ⟨p5, p6⟩ := or_zero h3 h2 p3
    omega
  · intro h
    unfold isW at *
    have q0 : a0 = 0 := by simp only [Int.reducePow] at *; omega
    have q1 : a1 = 0 := by simp only [Int.reducePow] at *; omega
    have q2 : a2 = 0 := by simp only [Int.reducePow] at *; omega
    have q3 : a3 = 0 := by simp only [Int.reducePow] at *; omega
    subst q0; subst q1; subst q2; subst q3
    have hz : ibinF .or .u64 0 0 = 0 := by kernel_rfl
    rw [e3, e2, e1, hz, hz, hz]
theorem mont_eq_zero {u : Fp} (h : mont u = 0) : u = 0 := mont_inj (h.trans mont_zero.symm)
theorem negq {x0 x1 x2 x3 s0 s1 s2 s3 c0 c1 c2 c3 X : Int} (e0 : s0 + x0 + 0 = 4332616871279656263 + 18446744073709551616 * c0) (e1 : s1 + x1 + c0 = 10917124144477883021 + 18446744073709551616 * c1) (e2 : s2 + x2 + c1 = 13281191951274694749 + 18446744073709551616 * c2) (e3 : s3 + x3 + c2 = 3486998266802970665 + 18446744073709551616 * c3)
    (hX : x0 + 18446744073709551616 * x1 + 340282366920938463463374607431768211456 * x2 + 6277101735386680763835789423207666416102355444464034512896 * x3 = X) (hx : X < 21888242871839275222246405745257275088696311157297823662689037894645226208583) (h0 : 0 ≤ s0) (h1 : 0 ≤ s1) (h2 : 0 ≤ s2) (h3 : 0 ≤ s3) (h0' : s0 < 18446744073709551616) (h1' : s1 < 18446744073709551616) (h2' : s2 < 18446744073709551616) (h3' : s3 < 18446744073709551616) (hc : 0 ≤ c3) : s0 + 18446744073709551616 * s1 + 340282366920938463463374607431768211456 * s2 + 6277101735386680763835789423207666416102355444464034512896 * s3 = 21888242871839275222246405745257275088696311157297823662689037894645226208583 - X := by
  omega
theorem Neg_val : UnVal 2 NegT := by
  intro V x mk K u1 hx hp
  obtain ⟨h0, h1, h2, hp⟩ := hp
  have c0 := ibor h0
  have c1 := ibor h1
  have c2 := ibor h2
  simp only [IE.den_var] at c0 c1 c2
  have w0 := wordN_isW (mont u1) 0
  rw [← hx 0 (by omega)] at w0
  have w1 := wordN_isW (mont u1) 1
  rw [← hx 1 (by omega)] at w1
  have w2 := wordN_isW (mont u1) 2
  rw [← hx 2 (by omega)] at w2
  have w3 := wordN_isW (mont u1) 3
  rw [← hx 3 (by omega)] at w3
  have hX := mont_val hx
  have hz := zero_words w0 w1 w2 w3 c0 c1 c2
  rw [hX] at hz
  have hn : mont u1 = 0 → mont (-u1) = 0 := fun h => by rw [mont_eq_zero h]; kernel_rfl
  have hs : ((mont (-u1) : Nat) : Int) = mont 0 - mont u1 ∨ ((mont (-u1) : Nat) : Int) = mont 0 - mont u1 + 21888242871839275222246405745257275088696311157297823662689037894645226208583 := by
    have := mont_subI (a := 0) (b := u1)
    rwa [show (0 : Fp) - u1 = -u1 from ring_id [u1] (0 - v 0) (-v 0) (by kernel_rfl)] at this
  rw [mont_zero] at hs
  have hl := mont_ltI (-u1)
  rcases hp with ⟨ht, hk⟩ | ⟨ht, g0, g1, g2, g3, hk⟩
  · have ht := cmp_eq_t ht
    simp only [IE.den_lit, IE.den_var] at ht
    have hm : mont (-u1) = 0 := hn (Int.ofNat.inj (hz.1 ht))
    refine ⟨_, hk, fun B => ?_⟩
    show LIs V B _ [.int .u64 (wordN (mont (-u1)) 0), .int .u64 (wordN (mont (-u1)) 1), .int .u64 (wordN (mont (-u1)) 2), .int .u64 (wordN (mont (-u1)) 3)]
    rw [hm]
    exact ⟨rfl, rfl, rfl, rfl, trivial⟩
  · have ht := cmp_eq_f ht
    have g0 := pf2 g0
    have g1 := pf2 g1
    have g2 := pf2 g2
    have g3 := pf2 g3
    simp only [IE.den_lit, IE.den_var, Nat.reduceAdd, Nat.add_zero] at ht g0 g1 g2 g3
    have hne : ((mont u1 : Nat) : Int) ≠ 0 := fun h => ht (hz.2 h)
    have hr := negq g0.1 g1.1 g2.1 g3.1 hX (mont_ltI u1) g0.2.1 g1.2.1 g2.2.1 g3.2.1 g0.2.2.1 g1.2.2.1 g2.2.2.1 g3.2.2.1 g3.2.2.2.1
    refine ⟨_, hk, words_is (e := -u1) (words_gen ⟨g0.2.1, g0.2.2.1⟩ ⟨g1.2.1, g1.2.2.1⟩ ⟨g2.2.1, g2.2.2.1⟩ ⟨g3.2.1, g3.2.2.1⟩ (hr.trans ?_))⟩
    have h4 : (0 : Int) ≤ (mont u1 : Nat) := Int.natCast_nonneg _
    have h5 : (0 : Int) ≤ (mont (-u1) : Nat) := Int.natCast_nonneg _
    omega
/-! the runs of the leaves that only read, as trees (printed by a program) -/
def smallerThanModulusT (x : Nat → IE) (mk : Mem) : PT :=
 (.test (.cmp .lss (x 3) (.lit 3486998266802970665) true)
 (.done mk 0 8 (.a (.c (.lit (.bool true)))))
 (.test (.cmp .eql (x 3) (.lit 3486998266802970665) true)
 (.test (.cmp .lss (x 2) (.lit 13281191951274694749) true)
 (.done mk 0 8 (.a (.c (.lit (.bool true)))))
 (.test (.cmp .eql (x 2) (.lit 13281191951274694749) true)
 (.test (.cmp .lss (x 1) (.lit 10917124144477883021) true)
 (.done mk 0 8 (.a (.c (.lit (.bool true)))))
 (.test (.cmp .eql (x 1) (.lit 10917124144477883021) true)
 (.test (.cmp .lss (x 0) (.lit 4332616871279656263) true)
 (.done mk 0 8 (.a (.c (.lit (.bool true)))))
 (.done mk 0 8 (.a (.c (.lit (.bool false))))))
 (.done mk 0 8 (.a (.c (.lit (.bool false)))))))
 (.done mk 0 8 (.a (.c (.lit (.bool false)))))))
 (.done mk 0 8 (.a (.c (.lit (.bool false)))))))
def IsZeroT (x : Nat → IE) (mk : Mem) : PT :=
 (.row (.ibin 8 .or .u64 (x 3) (x 2)) 
 (.row (.ibin 9 .or .u64 (.var 8) (x 1)) 
 (.row (.ibin 10 .or .u64 (.var 9) (x 0)) 
 (.test (.cmp .eql (.var 10) (.lit 0) true)
 (.done mk 0 11 (.a (.c (.lit (.bool true)))))
 (.done mk 0 11 (.a (.c (.lit (.bool false)))))))))
def EqualT (x y : Nat → IE) (mk : Mem) : PT :=
 (.row (.ibin 8 .xor .u64 (x 3) (y 3)) 
 (.row (.ibin 9 .xor .u64 (x 2) (y 2)) 
 (.row (.ibin 10 .or .u64 (.var 8) (.var 9)) 
 (.row (.ibin 11 .xor .u64 (x 1) (y 1)) 
 (.row (.ibin 12 .or .u64 (.var 10) (.var 11)) 
 (.row (.ibin 13 .xor .u64 (x 0) (y 0)) 
 (.row (.ibin 14 .or .u64 (.var 12) (.var 13)) 
 (.test (.cmp .eql (.var 14) (.lit 0) true)
 (.done mk 0 15 (.a (.c (.lit (.bool true)))))
 (.done mk 0 15 (.a (.c (.lit (.bool false)))))))))))))
def Mul64T : PT :=
 (.row (.ibin 2 .and .u64 (.var 0) (.lit 4294967295)) 
 (.row (.ibin 3 .shr .u64 (.var 0) (.lit 32)) 
 (.row (.ibin 4 .and .u64 (.var 1) (.lit 4294967295)) 
 (.row (.ibin 5 .shr .u64 (.var 1) (.lit 32)) 
 (.row (.ibin 6 .mul .u64 (.var 2) (.var 4)) 
 (.row (.ibin 7 .mul .u64 (.var 3) (.var 4)) 
 (.row (.ibin 8 .shr .u64 (.var 6) (.lit 32)) 
 (.row (.ibin 9 .add .u64 (.var 7) (.var 8)) 
 (.row (.ibin 10 .and .u64 (.var 9) (.lit 4294967295)) 
 (.row (.ibin 11 .shr .u64 (.var 9) (.lit 32)) 
 (.row (.ibin 12 .mul .u64 (.var 2) (.var 5)) 
 (.row (.ibin 13 .add .u64 (.var 10) (.var 12)) 
 (.row (.ibin 14 .mul .u64 (.var 3) (.var 5)) 
 (.row (.ibin 15 .add .u64 (.var 14) (.var 11)) 
 (.row (.ibin 16 .shr .u64 (.var 13) (.lit 32)) 
 (.row (.ibin 17 .add .u64 (.var 15) (.var 16)) 
 (.row (.ibin 18 .mul .u64 (.var 0) (.var 1)) 
 (.done [] 0 19 (.tup [.c (.iv .u64 17), .c (.iv .u64 18)])))))))))))))))))))
section
variable {P : Program}
theorem rep0 (S : Nat → Nat → Prop) (w : World) (V : VE FD) (ni : Nat) (d : List Bool) : Rep S w V [] ⟨[], 0, ni, [], d⟩ w :=
  ⟨.refl _ _, rfl, fun r m cs b o h _ => by simp at h, fun r cs b o i h => by simp at h, fun r r' m cs m' cs' b o b' o' i j _ h => by simp at h⟩
theorem nohd {b o : Nat} {c : List SC} : ∀ (r : Nat) (m : Bool) (cs : List SC) (b' o' : Nat), ([] : Mem)[r]? = some (m, cs) → ([] : Bs)[r]? = some (b', o') → ∀ i j, i < cs.length → j < c.length → ¬ (b' = b ∧ o' + i = o + j) := by
  intro r m cs b' o' h; simp at h
def VI (a b c d : Int) : VE FD := ⟨fun _ => (0 : Fp), fun i => match i with | 0 => a | 1 => b | 2 => c | 3 => d | _ => 0⟩
theorem VI_ok {a b c d : Int} (ha : isW a) (hb : isW b) (hc : isW c) (hd : isW d) : KsOK (VI a b c d) 8 k8 := by
  have h0 : isW 0 := ⟨by decide, by decide⟩
  exact ⟨h0, h0, h0, h0, hd, hc, hb, ha, trivial⟩
theorem lss_t {V : VE FD} {a b : IE} {z : Bool} (h : (flipT true (.cmp .lss a b z)).holds V) : a.den V < b.den V := by
  have h : decide (a.den V < b.den V) = true := h
  simpa using h
theorem lss_f {V : VE FD} {a b : IE} {z : Bool} (h : (flipT false (.cmp .lss a b z)).holds V) : ¬ a.den V < b.den V := by
  have h : decide (a.den V < b.den V) = false := h
  simpa using h
theorem tm_val {V : VE FD} {x : Nat → IE} {mk : Mem} {K : Mem → SV → Prop} {a b c d : Int} (ha : (x 0).den V = a) (hb : (x 1).den V = b) (hc : (x 2).den V = c) (hd : (x 3).den V = d) (wa : isW a) (wb : isW b) (wc : isW c) (wd : isW d)
    (hp : (smallerThanModulusT x mk).post V K) : K mk (litV (.bool (tmF 0 [a, b, c, d]))) := by
  have hpp : (21888242871839275222246405745257275088696311157297823662689037894645226208583 : Int) = (pP : Int) := by kernel_rfl
  have hv : val4I a b c d = a + 18446744073709551616 * b + 340282366920938463463374607431768211456 * c + 6277101735386680763835789423207666416102355444464034512896 * d := by
    unfold val4I; simp only [Int.reducePow]; omega
  have T : (val4I a b c d < (pP : Int)) → K mk (litV (.bool true)) → K mk (litV (.bool (tmF 0 [a, b, c, d]))) := fun h hk => by
    show K mk (litV (.bool (decide _))); rw [decide_eq_true h]; exact hk
  have F : (¬ val4I a b c d < (pP : Int)) → K mk (litV (.bool false)) → K mk (litV (.bool (tmF 0 [a, b, c, d]))) := fun h hk => by
    show K mk (litV (.bool (decide _))); rw [decide_eq_false h]; exact hk
  rw [hv, ← hpp] at T F
  unfold isW at wa wb wc wd
  simp only [Int.reducePow] at wa wb wc wd
  rcases hp with ⟨h1, hk⟩ | ⟨h1, ⟨h2, hp⟩ | ⟨h2, hk⟩⟩
  · have h1 := lss_t h1; rw [hd] at h1; simp only [IE.den_lit] at h1
    exact T (by omega) hk
  · have h1 := lss_f h1; rw [hd] at h1; simp only [IE.den_lit] at h1
    have h2 := cmp_eq_t h2; rw [hd] at h2; simp only [IE.den_lit] at h2
    rcases hp with ⟨h3, hk⟩ | ⟨h3, ⟨h4, hp⟩ | ⟨h4, hk⟩⟩
    · have h3 := lss_t h3; rw [hc] at h3; simp only [IE.den_lit] at h3
      exact T (by omega) hk
    · have h3 := lss_f h3; rw [hc] at h3; simp only [IE.den_lit] at h3
      have h4 := cmp_eq_t h4; rw [hc] at h4; simp only [IE.den_lit] at h4
      rcases hp with ⟨h5, hk⟩ | ⟨h5, ⟨h6, hp⟩ | ⟨h6, hk⟩⟩
      · have h5 := lss_t h5; rw [hb] at h5; simp only [IE.den_lit] at h5
        exact T (by omega) hk
      · have h5 := lss_f h5; rw [hb] at h5; simp only [IE.den_lit] at h5
        have h6 := cmp_eq_t h6; rw [hb] at h6; simp only [IE.den_lit] at h6
        rcases hp with ⟨h7, hk⟩ | ⟨h7, hk⟩
        · have h7 := lss_t h7; rw [ha] at h7; simp only [IE.den_lit] at h7
          exact T (by omega) hk
        · have h7 := lss_f h7; rw [ha] at h7; simp only [IE.den_lit] at h7
          exact F (by omega) hk
      · have h5 := lss_f h5; rw [hb] at h5; simp only [IE.den_lit] at h5
        have h6 := cmp_eq_f h6; rw [hb] at h6; simp only [IE.den_lit] at h6
        exact F (by omega) hk
    · have h3 := lss_f h3; rw [hc] at h3; simp only [IE.den_lit] at h3
      have h4 := cmp_eq_f h4; rw [hc] at h4; simp only [IE.den_lit] at h4
      exact F (by omega) hk
  · have h1 := lss_f h1; rw [hd] at h1; simp only [IE.den_lit] at h1
    have h2 := cmp_eq_f h2; rw [hd] at h2; simp only [IE.den_lit] at h2
    exact F (by omega) hk
def TmChk (call : CallF) (f : Nat) : Prop := (smallerThanModulusT (nm 0) [(false, cl 0)]).chk (fun ds => call f [pS 0] ⟨[(false, cl 0)], 0, 8, [], ds⟩) [] []
theorem tm_leaf {call : CallF} (hcall : CallOK P FD call) {f : Nat} (hchk : TmChk call f) : PrimOK P FD f (.tm 0 4) := by
  intro w b o ns hlen hc htm
  match ns, hlen with
  | [n0, n1, n2, n3], _ =>
    obtain ⟨w0, w1, w2, w3⟩ := htm
    obtain ⟨V', ha, hp⟩ := PT.run hcall _ hchk (by kernel_rfl) rfl rfl (VI n0 n1 n2 n3) (VI_ok w0 w1 w2 w3) (S := fun _ _ => False) (w0 := w) (B := [(b, o)]) (us := [pt b o])
      ((rep0 _ w (VI n0 n1 n2 n3) 8 []).more1 (b := b) (o := o) (c := cl 0) (v := [.int .u64 n0, .int .u64 n1, .int .u64 n2, .int .u64 n3]) ⟨rfl, rfl, rfl, rfl, trivial⟩ hc nohd) ⟨⟨b, o, rfl, rfl⟩, trivial⟩
    have := tm_val (x := nm 0) (a := n0) (b := n1) (c := n2) (d := n3) (ha.2 0 (by omega)) (ha.2 1 (by omega)) (ha.2 2 (by omega)) (ha.2 3 (by omega)) w0 w1 w2 w3 hp
    refine this.mono ?_
    rintro e w' ⟨u, X, rfl, hr, hu⟩
    have hu : u = .bool (tmF 0 [n0, n1, n2, n3]) := hu
    exact ⟨by rw [hu]; rfl, hr.keeps⟩
def T1Chk (call : CallF) (f : Nat) : Prop := (IsZeroT (nm 0) [(false, cl 0)]).chk (fun ds => call f [pS 0] ⟨[(false, cl 0)], 0, 8, [], ds⟩) [] []
theorem t1_leaf {call : CallF} (hcall : CallOK P FD call) {f : Nat} (hchk : T1Chk call f) : PrimOK P FD f (.p (.t1 0)) := by
  intro w b o (e1 : Fp) hc
  have hc : HasC w b o (words4 (D := FD) e1) := hc
  obtain ⟨V', ha, hp⟩ := PT.run hcall _ hchk (by kernel_rfl) rfl rfl (V2 e1 e1) (k8_ok e1 e1) (S := fun _ _ => False) (w0 := w) (B := [(b, o)]) (us := [pt b o])
      ((rep0 _ w (V2 e1 e1) 8 []).more1 (b := b) (o := o) (c := cl 0) (cl0_is e1 e1 _) hc nohd) ⟨⟨b, o, rfl, rfl⟩, trivial⟩
  have hx := nm0_den ha
  obtain ⟨h0, h1, h2, hp⟩ := hp
  have c0 := ibor h0
  have c1 := ibor h1
  have c2 := ibor h2
  simp only [IE.den_var] at c0 c1 c2
  have ww : ∀ i, i < 4 → isW ((nm 0 i).den V') := fun i hi => by rw [hx i hi]; exact wordN_isW _ _
  have hz := zero_words (ww 0 (by omega)) (ww 1 (by omega)) (ww 2 (by omega)) (ww 3 (by omega)) c0 c1 c2
  rw [mont_val hx] at hz
  have hdec : V'.it 10 = 0 ↔ e1 = 0 := hz.trans ⟨fun h => mont_eq_zero (Int.ofNat.inj h), fun h => by rw [h, mont_zero]; rfl⟩
  rcases hp with ⟨ht, hk⟩ | ⟨ht, hk⟩
  · have ht := cmp_eq_t ht
    refine hk.mono ?_
    rintro e w' ⟨u, X, rfl, hr, hu⟩
    have hu : u = .bool true := hu
    exact ⟨by rw [hu]; show _ = Ending.returned (.bool (decide (e1 = 0))); rw [decide_eq_true (hdec.1 ht)], hr.keeps⟩
  · have ht := cmp_eq_f ht
    refine hk.mono ?_
    rintro e w' ⟨u, X, rfl, hr, hu⟩
    have hu : u = .bool false := hu
    exact ⟨by rw [hu]; show _ = Ending.returned (.bool (decide (e1 = 0))); rw [decide_eq_false (fun h => ht (hdec.2 h))], hr.keeps⟩
theorem ofInt_inj {x y : Int} (hx : isW x) (hy : isW y) (h : BitVec.ofInt 64 x = BitVec.ofInt 64 y) : x = y := by
  have := congrArg BitVec.toNat h
  rw [BitVec.toNat_ofInt, BitVec.toNat_ofInt] at this
  unfold isW at hx hy
  simp only [Int.reducePow, Nat.reducePow, Int.cast_ofNat_Int] at *
  omega
theorem xor_zero {x y : Int} (hx : isW x) (hy : isW y) : ibinF .xor .u64 x y = 0 ↔ x = y := by
  constructor
  · intro h
    have h2 : (((BitVec.ofInt 64 x ^^^ BitVec.ofInt 64 y).toNat : Int)) % 2 ^ 64 = 0 := h
    have h3 := (BitVec.ofInt 64 x ^^^ BitVec.ofInt 64 y).isLt
    have h4 : (BitVec.ofInt 64 x ^^^ BitVec.ofInt 64 y).toNat = 0 := by
      simp only [Int.reducePow, Nat.reducePow] at h2 h3
      omega
    have h5 : BitVec.ofInt 64 x ^^^ BitVec.ofInt 64 y = 0#64 := BitVec.eq_of_toNat_eq (by rw [h4]; rfl)
    exact ofInt_inj hx hy (BitVec.xor_eq_zero_iff.1 h5)
  · intro h
    subst h
    show (((BitVec.ofInt 64 x ^^^ BitVec.ofInt 64 x).toNat : Int)) % 2 ^ 64 = 0
    rw [BitVec.xor_self]; rfl
theorem or_zero' {x y : Int} (hx : isW x) (hy : isW y) : ibinF .or .u64 x y = 0 ↔ x = 0 ∧ y = 0 :=
  ⟨or_zero hx hy, fun h => by rw [h.1, h.2]; kernel_rfl⟩
theorem ibxor {V : VE FD} {i : Nat} {a b : IE} (h : (TOp.ibin i .xor .u64 a b).holds V) : V.it i = ibinF .xor .u64 (a.den V) (b.den V) := h
def T2Chk (call : CallF) (f : Nat) : Prop :=
  (EqualT (nm 0) (nm 4) [(false, cl 0), (false, cl 4)]).chk (fun ds => call f [pS 0, pS 1] ⟨[(false, cl 0), (false, cl 4)], 0, 8, [], ds⟩) [] [] ∧
  (EqualT (nm 0) (nm 0) [(false, cl 0)]).chk (fun ds => call f [pS 0, pS 0] ⟨[(false, cl 0)], 0, 8, [], ds⟩) [] []
theorem eq_val {V : VE FD} {x y : Nat → IE} {mk : Mem} {K : Mem → SV → Prop} {e1 e2 : Fp} (hx : ∀ i, i < 4 → (x i).den V = wordN (mont e1) i) (hy : ∀ i, i < 4 → (y i).den V = wordN (mont e2) i)
    (hp : (EqualT x y mk).post V K) : K mk (litV (.bool (decide (e1 = e2)))) := by
  obtain ⟨h0, h1, h2, h3, h4, h5, h6, hp⟩ := hp
  have c0 := ibxor h0
  have c1 := ibxor h1
  have c2 := ibor h2
  have c3 := ibxor h3
  have c4 := ibor h4
  have c5 := ibxor h5
  have c6 := ibor h6
  simp only [IE.den_var] at c0 c1 c2 c3 c4 c5 c6
  have wx : ∀ i, i < 4 → isW ((x i).den V) := fun i hi => by rw [hx i hi]; exact wordN_isW _ _
  have wy : ∀ i, i < 4 → isW ((y i).den V) := fun i hi => by rw [hy i hi]; exact wordN_isW _ _
  have key : V.it 14 = 0 ↔ e1 = e2 := by
    rw [c6, or_zero' (by rw [c4]; exact wrap_u64 _) (by rw [c5]; exact wrap_u64 _), c4, or_zero' (by rw [c2]; exact wrap_u64 _) (by rw [c3]; exact wrap_u64 _), c2, or_zero' (by rw [c0]; exact wrap_u64 _) (by rw [c1]; exact wrap_u64 _),
      c0, c1, c3, c5, xor_zero (wx 3 (by omega)) (wy 3 (by omega)), xor_zero (wx 2 (by omega)) (wy 2 (by omega)), xor_zero (wx 1 (by omega)) (wy 1 (by omega)), xor_zero (wx 0 (by omega)) (wy 0 (by omega))]
    constructor
    · rintro ⟨⟨⟨q3, q2⟩, q1⟩, q0⟩
      have m1 := mont_val hx
      rw [q0, q1, q2, q3, mont_val hy] at m1
      exact mont_inj (Int.ofNat.inj m1.symm)
    · intro h
      subst h
      exact ⟨⟨⟨by rw [hx 3 (by omega), hy 3 (by omega)], by rw [hx 2 (by omega), hy 2 (by omega)]⟩, by rw [hx 1 (by omega), hy 1 (by omega)]⟩, by rw [hx 0 (by omega), hy 0 (by omega)]⟩
  rcases hp with ⟨ht, hk⟩ | ⟨ht, hk⟩
  · rw [decide_eq_true (key.1 (cmp_eq_t ht))]; exact hk
  · rw [decide_eq_false (fun h => cmp_eq_f ht (key.2 h))]; exact hk
theorem t2_leaf {call : CallF} (hcall : CallOK P FD call) {f k : Nat} (hchk : T2Chk call f) : PrimOK P FD f (.p (.t2 k)) := by
  intro w b1 o1 b2 o2 (e1 : Fp) (e2 : Fp) hx hy hap
  have hx : HasC w b1 o1 (words4 (D := FD) e1) := hx
  have hy : HasC w b2 o2 (words4 (D := FD) e2) := hy
  by_cases he : b1 = b2 ∧ o1 = o2
  · obtain ⟨rfl, rfl⟩ := he
    obtain ⟨V', ha, hp⟩ := PT.run hcall _ hchk.2 (by kernel_rfl) rfl rfl (V2 e1 e1) (k8_ok e1 e1) (S := fun _ _ => False) (w0 := w) (B := [(b1, o1)]) (us := [pt b1 o1, pt b1 o1])
      ((rep0 _ w (V2 e1 e1) 8 []).more1 (b := b1) (o := o1) (c := cl 0) (cl0_is e1 e1 _) hx nohd) ⟨⟨b1, o1, rfl, rfl⟩, ⟨b1, o1, rfl, rfl⟩, trivial⟩
    have hee := words4_inj hx hy
    have := eq_val (e1 := e1) (e2 := e1) (nm0_den ha) (nm0_den ha) hp
    refine this.mono ?_
    rintro e w' ⟨u, X, rfl, hr, hu⟩
    have hu : u = .bool (decide (e1 = e1)) := hu
    refine ⟨?_, hr.keeps⟩
    rw [hu]
    show _ = Ending.returned (.bool (decide (e1 = e2)))
    rw [hee]
  · obtain ⟨V', ha, hp⟩ := PT.run hcall _ hchk.1 (by kernel_rfl) rfl rfl (V2 e1 e2) (k8_ok e1 e2) (S := fun _ _ => False) (w0 := w) (B := [(b1, o1), (b2, o2)]) (us := [pt b1 o1, pt b2 o2])
      (((rep0 _ w (V2 e1 e2) 8 []).more1 (b := b1) (o := o1) (c := cl 0) (cl0_is e1 e2 _) hx nohd).more1 (b := b2) (o := o2) (c := cl 4) (cl4_is e1 e2 _) hy (only1 (hap.off he))) ⟨⟨b1, o1, rfl, rfl⟩, ⟨b2, o2, rfl, rfl⟩, trivial⟩
    have := eq_val (e1 := e1) (e2 := e2) (nm0_den ha) (nm4_den ha) hp
    refine this.mono ?_
    rintro e w' ⟨u, X, rfl, hr, hu⟩
    have hu : u = .bool (decide (e1 = e2)) := hu
    exact ⟨by rw [hu]; rfl, hr.keeps⟩
/-! the product of two words -/
theorem and32 {a : Int} (ha : isW a) : ibinF .and .u64 a 4294967295 = a % 4294967296 := by
  show (((BitVec.ofInt 64 a &&& BitVec.ofInt 64 4294967295).toNat : Int)) % 2 ^ 64 = _
  have h1 : BitVec.ofInt 64 4294967295 = BitVec.ofNat 64 (2 ^ 32 - 1) := by rfl
  have h2 : (BitVec.ofInt 64 a &&& BitVec.ofInt 64 4294967295).toNat = a.toNat % 2 ^ 32 := by
    rw [h1, BitVec.toNat_and, BitVec.toNat_ofInt, BitVec.toNat_ofNat, Nat.mod_eq_of_lt (show 2 ^ 32 - 1 < 2 ^ 64 by decide), Nat.and_two_pow_sub_one_eq_mod]
    congr 1
    unfold isW at ha
    simp only [Int.reducePow, Nat.reducePow, Int.cast_ofNat_Int] at *
    omega
  rw [h2]
  unfold isW at ha
  simp only [Int.reducePow, Nat.reducePow] at *
  omega
theorem shr32 {a : Int} (ha : isW a) : ibinF .shr .u64 a 32 = a / 4294967296 := by
  show a.fdiv (2 ^ (min 32 64)) = _
  rw [Int.fdiv_eq_ediv_of_nonneg _ (by decide)]
  rfl
theorem mul_parts {x y : Int} (hx : isW x) (hy : isW y) {a b c d e f g h i j k l m n o p : Int} (ea : a = x % 4294967296) (eb : b = x / 4294967296) (ec : c = y % 4294967296) (ed : d = y / 4294967296)
    (ee : e = a * c % 18446744073709551616) (ef : f = b * c % 18446744073709551616) (eg : g = e / 4294967296) (eh : h = (f + g) % 18446744073709551616) (ei : i = h % 4294967296) (ej : j = h / 4294967296)
    (ek : k = a * d % 18446744073709551616) (el : l = (i + k) % 18446744073709551616) (em : m = b * d % 18446744073709551616) (en : n = (m + j) % 18446744073709551616) (eo : o = l / 4294967296) (ep : p = (n + o) % 18446744073709551616) :
    p = x * y / 18446744073709551616 := by
  unfold isW at hx hy
  simp only [Int.reducePow] at hx hy
  have ha : 0 ≤ a ∧ a ≤ 4294967295 := by omega
  have hb : 0 ≤ b ∧ b ≤ 4294967295 := by omega
  have hc : 0 ≤ c ∧ c ≤ 4294967295 := by omega
  have hd : 0 ≤ d ∧ d ≤ 4294967295 := by omega
  have bd : ∀ {s t : Int}, 0 ≤ s ∧ s ≤ 4294967295 → 0 ≤ t ∧ t ≤ 4294967295 → 0 ≤ s * t ∧ s * t ≤ 18446744065119617025 := by
    intro s t hs ht
    refine ⟨Int.mul_nonneg hs.1 ht.1, ?_⟩
    have := Int.mul_le_mul hs.2 ht.2 ht.1 (by decide)
    simpa using this
  have e1 := bd ha hc
  have e2 := bd hb hc
  have e3 := bd ha hd
  have e4 := bd hb hd
  have hxy : x * y = a * c + 4294967296 * (b * c) + 4294967296 * (a * d) + 18446744073709551616 * (b * d) := by
    have q1 : x = a + 4294967296 * b := by omega
    have q2 : y = c + 4294967296 * d := by omega
    rw [q1, q2]
    simp only [Int.add_mul, Int.mul_add, Int.mul_assoc, Int.mul_left_comm _ (4294967296 : Int)]
    omega
  rw [hxy]
  generalize a * c = p1 at *
  generalize b * c = p2 at *
  generalize a * d = p3 at *
  generalize b * d = p4 at *
  omega
theorem ibany {V : VE FD} {i : Nat} {op : BinOp} {k : IntKind} {a b : IE} (h : (TOp.ibin i op k a b).holds V) : V.it i = ibinF op k (a.den V) (b.den V) := h
def MulChk (call : CallF) (f : Nat) : Prop := Mul64T.chk (fun ds => call f [.a (.c (.iv .u64 0)), .a (.c (.iv .u64 1))] ⟨[], 0, 2, [], ds⟩) [] []
theorem mul64_leaf {call : CallF} (hcall : CallOK P FD call) {f : Nat} (hchk : MulChk call f) : PrimOK P FD f (.pf 0 [.u64, .u64] [.u64, .u64]) := by
  intro w ns hlen hn
  match ns, hlen with
  | [x, y], _ =>
    obtain ⟨wx, wy⟩ := hn
    refine ⟨rfl, ?_⟩
    obtain ⟨V', ha, hp⟩ := PT.run hcall _ hchk (ks := [1, 1]) (by kernel_rfl) rfl rfl (VI x y 0 0) ⟨wy, wx, trivial⟩ (S := fun _ _ => False) (w0 := w) (B := []) (us := [.int .u64 x, .int .u64 y]) (rep0 _ w _ 2 []) ⟨rfl, rfl, trivial⟩
    obtain ⟨h2, h3, h4, h5, h6, h7, h8, h9, h10, h11, h12, h13, h14, h15, h16, h17, h18, hk⟩ := hp
    have vx : V'.it 0 = x := ha.2 0 (by omega)
    have vy : V'.it 1 = y := ha.2 1 (by omega)
    have c2 := ibany h2
    have c3 := ibany h3
    have c4 := ibany h4
    have c5 := ibany h5
    have c6 := ibany h6
    have c7 := ibany h7
    have c8 := ibany h8
    have c9 := ibany h9
    have c10 := ibany h10
    have c11 := ibany h11
    have c12 := ibany h12
    have c13 := ibany h13
    have c14 := ibany h14
    have c15 := ibany h15
    have c16 := ibany h16
    have c17 := ibany h17
    have c18 := ibany h18
    simp only [IE.den_var, IE.den_lit, vx, vy] at c2 c3 c4 c5 c6 c7 c8 c9 c10 c11 c12 c13 c14 c15 c16 c17 c18
    have mulW : ∀ a b : Int, isW (ibinF .mul .u64 a b) := fun a b => wrap_u64 _
    have addW : ∀ a b : Int, isW (ibinF .add .u64 a b) := fun a b => wrap_u64 _
    rw [and32 wx] at c2
    rw [shr32 wx] at c3
    rw [and32 wy] at c4
    rw [shr32 wy] at c5
    rw [shr32 (by rw [c6]; exact mulW _ _)] at c8
    rw [and32 (by rw [c9]; exact addW _ _)] at c10
    rw [shr32 (by rw [c9]; exact addW _ _)] at c11
    rw [shr32 (by rw [c13]; exact addW _ _)] at c16
    have hhi : V'.it 17 = x * y / 18446744073709551616 := mul_parts wx wy c2 c3 c4 c5 c6 c7 c8 c9 c10 c11 c12 c13 c14 c15 c16 c17
    have hlo : V'.it 18 = x * y % 18446744073709551616 := c18
    refine hk.mono ?_
    rintro e w' ⟨u, X, rfl, hr, vs, hvs, rfl⟩
    match vs, hvs with
    | [u1, u2], ⟨hu1, hu2, _⟩ =>
      have hu1 : u1 = .int .u64 (V'.it 17) := hu1
      have hu2 : u2 = .int .u64 (V'.it 18) := hu2
      refine ⟨?_, hr.keeps⟩
      rw [hu1, hu2, hhi, hlo]
      rfl
end
variable {P : Program}
theorem ex_add {f : Nat} {fn : Func} (h0 : P.funcs[f]? = some fn) (h1 : (fn.name == "runtime.NumGoroutine") = false) (h2 : fn.body.isNone = true) (h3 : Extern.findNext fn = none) (h4 : Extern.find fn = some add64Entry)
    (ns : List Int) (hl : ns.length = 3) (hn : pfN 1 ns) : (pfF 1 ns).length = 2 ∧ ∀ w, (callFunc f (zipI [.u64, .u64, .u64] ns).toArray).run P w = .ok (.value (mkVal (zipI [.u64, .u64] (pfF 1 ns)))) w := by
  match ns, hl with
  | [a, b, c], _ =>
    obtain ⟨ha, hb, hc, hc'⟩ := hn
    refine ⟨rfl, fun w => ?_⟩
    unfold isW at ha hb
    obtain ⟨x, rfl⟩ := Int.eq_ofNat_of_zero_le ha.1
    obtain ⟨y, rfl⟩ := Int.eq_ofNat_of_zero_le hb.1
    obtain ⟨z, rfl⟩ := Int.eq_ofNat_of_zero_le hc
    show (callFunc f #[.int .u64 x, .int .u64 y, .int .u64 z]).run P w = .ok (.value (.tuple #[.int .u64 (((x : Int) + y + z) % 2 ^ 64), .int .u64 (((x : Int) + y + z) / 2 ^ 64)])) w
    rw [run_callFunc_extern h0 h1 h2 h3 (e := add64Entry) h4, run_add64 x y z (by omega) (by omega) (by omega) (by omega)]
    simp only [Result.andThen]
    congr 5 <;> omega
theorem ex_sub {f : Nat} {fn : Func} (h0 : P.funcs[f]? = some fn) (h1 : (fn.name == "runtime.NumGoroutine") = false) (h2 : fn.body.isNone = true) (h3 : Extern.findNext fn = none) (h4 : Extern.find fn = some sub64Entry)
    (ns : List Int) (hl : ns.length = 3) (hn : pfN 2 ns) : (pfF 2 ns).length = 2 ∧ ∀ w, (callFunc f (zipI [.u64, .u64, .u64] ns).toArray).run P w = .ok (.value (mkVal (zipI [.u64, .u64] (pfF 2 ns)))) w := by
  match ns, hl with
  | [a, b, c], _ =>
    obtain ⟨ha, hb, hc, hc'⟩ := hn
    refine ⟨rfl, fun w => ?_⟩
    unfold isW at ha hb
    obtain ⟨x, rfl⟩ := Int.eq_ofNat_of_zero_le ha.1
    obtain ⟨y, rfl⟩ := Int.eq_ofNat_of_zero_le hb.1
    obtain ⟨z, rfl⟩ := Int.eq_ofNat_of_zero_le hc
    show (callFunc f #[.int .u64 x, .int .u64 y, .int .u64 z]).run P w = .ok (.value (.tuple #[.int .u64 (((x : Int) - y - z) % 2 ^ 64), .int .u64 (-(((x : Int) - y - z) / 2 ^ 64))])) w
    rw [run_callFunc_extern h0 h1 h2 h3 (e := sub64Entry) h4, run_sub64 x y z (by omega)]
    simp only [Result.andThen, Int.reducePow] at *
    have e1 : (((x + 18446744073709551616 - y - z) % 18446744073709551616 : Nat) : Int) = ((x : Int) - y - z) % 18446744073709551616 := by omega
    have e2 : ((if x < y + z then 1 else 0 : Nat) : Int) = -(((x : Int) - y - z) / 18446744073709551616) := by
      split <;> omega
    rw [e1, e2]
def w64 (a : Int) : Bool := decide (0 ≤ a) && decide (a < 18446744073709551616)
/-- sums and differences of constants -/
def foldF : Nat → List Int → Option (List Int)
  | 1, [a, b, c] => match w64 a && (w64 b && (decide (0 ≤ c) && decide (c ≤ 1))) with
    | true => some [(a + b + c) % 18446744073709551616, (a + b + c) / 18446744073709551616]
    | false => none
  | 2, [a, b, c] => match w64 a && (w64 b && (decide (0 ≤ c) && decide (c ≤ 1))) with
    | true => some [(a - b - c) % 18446744073709551616, -((a - b - c) / 18446744073709551616)]
    | false => none
  | _, _ => none
theorem w64_is {a : Int} (h : w64 a = true) : isW a := by
  unfold w64 at h
  simp only [Bool.and_eq_true, decide_eq_true_eq] at h
  exact ⟨h.1, by omega⟩
theorem foldF_ok {k : Nat} {ns ys : List Int} (h : foldF k ns = some ys) : FD.pfn k ns ∧ FD.pf k ns = ys := by
  unfold foldF at h
  split at h
  · split at h
    · rename_i hc
      simp only [Bool.and_eq_true, decide_eq_true_eq] at hc
      simp only [Option.some.injEq] at h; subst h
      exact ⟨⟨w64_is hc.1, w64_is hc.2.1, hc.2.2.1, hc.2.2.2⟩, rfl⟩
    · simp at h
  · split at h
    · rename_i hc
      simp only [Bool.and_eq_true, decide_eq_true_eq] at hc
      simp only [Option.some.injEq] at h; subst h
      exact ⟨⟨w64_is hc.1, w64_is hc.2.1, hc.2.2.1, hc.2.2.2⟩, rfl⟩
    · simp at h
  · simp at h
/-- the words' context -/
theorem ctx_words {C : Ctx} {a s : Nat} {fa fs : Func} (hex : C.ex = [(a, 1, [.u64, .u64, .u64], [.u64, .u64]), (s, 2, [.u64, .u64, .u64], [.u64, .u64])])
    (hfd : C.fd = foldF) (h1 : C.ty.all (fun p => tyCheck P p.1 p.2 && tyCheck2 P p.1 p.2) = true) (h1' : C.ty.map (fun p => slF P p.1) = C.ty.map (fun p => p.2.sl)) (h2 : C.ty.map (fun p => ((P.info? p.1).bind (·.zero)).map (·.cells)) = C.ty.map (fun p => some p.2.zero.toArray))
    (h3 : C.fn.map (fun p => P.funcs[p.1]?) = C.fn.map (fun p => some p.2)) (h4 : C.fn.all (fun p => !(p.2.name == "runtime.NumGoroutine")) = true)
    (a0 : P.funcs[a]? = some fa) (a1 : (fa.name == "runtime.NumGoroutine") = false) (a2 : fa.body.isNone = true) (a3 : Extern.findNext fa = none) (a4 : Extern.find fa = some add64Entry)
    (s0 : P.funcs[s]? = some fs) (s1 : (fs.name == "runtime.NumGoroutine") = false) (s2 : fs.body.isNone = true) (s3 : Extern.findNext fs = none) (s4 : Extern.find fs = some sub64Entry) : CtxOk P FD C := by
  refine ctxOk h1 h1' h2 h3 h4 ?_ (fun k ns ys h => foldF_ok (by rw [hfd] at h; exact h))
  intro f k ks rs h ns hl hn
  rw [hex] at h
  simp only [lk] at h
  split at h
  · rename_i e
    have e := Nat.eq_of_beq_eq_true e
    subst e
    simp only [Option.some.injEq, Prod.mk.injEq] at h
    obtain ⟨rfl, rfl, rfl⟩ := h
    exact ex_add a0 a1 a2 a3 a4 ns hl hn
  · split at h
    · rename_i e
      have e := Nat.eq_of_beq_eq_true e
      subst e
      simp only [Option.some.injEq, Prod.mk.injEq] at h
      obtain ⟨rfl, rfl, rfl⟩ := h
      exact ex_sub s0 s1 s2 s3 s4 ns hl hn
    · simp at h
/-- another context, of the same externs -/
theorem ctx_more {C0 C : Ctx} (h0 : CtxOk P FD C0) (hex : C.ex = C0.ex) (hfd : C.fd = C0.fd) (h1 : C.ty.all (fun p => tyCheck P p.1 p.2 && tyCheck2 P p.1 p.2) = true) (h1' : C.ty.map (fun p => slF P p.1) = C.ty.map (fun p => p.2.sl))
    (h2 : C.ty.map (fun p => ((P.info? p.1).bind (·.zero)).map (·.cells)) = C.ty.map (fun p => some p.2.zero.toArray))
    (h3 : C.fn.map (fun p => P.funcs[p.1]?) = C.fn.map (fun p => some p.2)) (h4 : C.fn.all (fun p => !(p.2.name == "runtime.NumGoroutine")) = true) : CtxOk P FD C :=
  ctxOk h1 h1' h2 h3 h4 (fun f k ks rs h => h0.ex f k ks rs (by rw [← hex]; exact h)) (fun k ns ys h => h0.fd k ns ys (by rw [← hfd]; exact h))
/-! pieces of code from shape to shape; loops -/
def Ex.code : Ex → Nat
  | .normal => 0
  | .ret => 1
  | .exit id => id + 2
theorem Ex.code_inj : ∀ {a b : Ex}, a.code = b.code → a = b
  | .normal, .normal, _ => rfl
  | .ret, .ret, _ => rfl
  | .exit i, .exit j, h => by have h : i + 2 = j + 2 := h; rw [show i = j by omega]
  | .normal, .ret, h => by cases h
  | .ret, .normal, h => by cases h
  | .normal, .exit j, h => by have h : 0 = j + 2 := h; omega
  | .ret, .exit j, h => by have h : 1 = j + 2 := h; omega
  | .exit j, .normal, h => by have h : j + 2 = 0 := h; omega
  | .exit j, .ret, h => by have h : j + 2 = 1 := h; omega
def pick (T : TM) : List Nat → Option (List SA)
  | [] => some []
  | t :: r => match T.get t, pick T r with
    | some (.a x), some l => some (x :: l)
    | _, _ => none
def zipT : List Nat → List SA → List (Nat × SV)
  | t :: r, x :: l => (t, .a x) :: zipT r l
  | _, _ => []
def exV (ex : Ex) (l : List SA) : SV := .tup (.c (.lit (.int .u64 (.ofNat ex.code))) :: l)
def segRun (C : Ctx) (call : CallF) (N m : Nat) (c : Code) (T0 : List (Nat × SV)) (ts : Nat → List Nat) (mem : Mem) (ne ni : Nat) : List Bool → Option (SS × SV) := fun ds =>
  match codeS C call N m c (mkT T0) ⟨mem, ne, ni, [], ds⟩ with
  | some (T', st', ex) => match pick T' (ts ex.code) with
    | some l => some (st', exV ex l)
    | none => none
  | none => none
section
variable {D : Dom} {P : Program}
theorem pick_tok {V : VE D} {B : Bs} {N : Nat} {T : TM} {a : Act} (h : TOK V B N T a) : ∀ {ts : List Nat} {l : List SA}, pick T ts = some l → TOK V B N (mkT (zipT ts l)) a
  | [], l, hp => by simp only [pick, Option.some.injEq] at hp; subst hp; exact ⟨h.size, fun t v hl => by simp [zipT, mkT, TM.get] at hl, h.defers⟩
  | t :: r, l, hp => by
    unfold pick at hp
    split at hp
    · rename_i x l' hx hr
      simp only [Option.some.injEq] at hp; subst hp
      have ih := pick_tok h hr
      refine ⟨h.size, fun t' v hl => ?_, h.defers⟩
      rw [mkT_get] at hl
      simp only [zipT, lk] at hl
      split at hl
      · rename_i e
        have e := Nat.eq_of_beq_eq_true e
        subst e
        simp only [Option.some.injEq] at hl; subst hl
        exact h.look _ _ hx
      · exact ih.look t' v (by rw [mkT_get]; exact hl)
    · simp at hp
theorem TOK.agree {ne ni : Nat} {V V' : VE D} (ha : Agree ne ni V V') {B : Bs} {N : Nat} {T : List (Nat × SV)} {a : Act} (h : TOK V B N (mkT T) a) (hi : T.all (fun p => svIn ne ni p.2) = true) : TOK V' B N (mkT T) a :=
  ⟨h.size, fun t v hl => by
    obtain ⟨u, h1, h2⟩ := h.look t v hl
    have := List.all_eq_true.1 hi _ (lk_mem (by rw [← mkT_get]; exact hl))
    exact ⟨u, h1, svIn_is ha this h2⟩, h.defers⟩
end
section
variable {P : Program}
/-- what a piece of code comes to -/
def SegK (P : Program) (S : Nat → Nat → Prop) (w0 : World) (N : Nat) (c : Code) (T0 : List (Nat × SV)) (ts : Nat → List Nat) (mem : Mem) (V V' : VE FD) (mem' : Mem) (v : SV) : Prop :=
  ∀ (B : Bs) (a : Act) (w : World), TOK V B N (mkT T0) a → Rep S w0 V B ⟨mem, 0, 0, [], []⟩ w → ∀ (Q : Exit → Act → World → Prop),
    (∀ (ex : Ex) (l : List SA), v = exV ex l → ∀ (X : Bs) (a' : Act) (w' : World), TOK V' (B ++ X) N (mkT (zipT (ts ex.code) l)) a' → Rep S w0 V' (B ++ X) ⟨mem', 0, 0, [], []⟩ w' → Q ex.of a' w') → c.wp P Q a w
theorem seg_run {C : Ctx} (hC : CtxOk P FD C) (hm : P.follows .mixedOrders = true) {call : CallF} (hcall : CallOK P FD call) {N m : Nat} {c : Code} {T0 : List (Nat × SV)} {ts : Nat → List Nat} {mem : Mem} {ne ni : Nat} {ks : List Nat} (t : PT)
    (hchk : t.chk (segRun C call N m c T0 ts mem ne ni) [] []) (ho : t.ok ne ni ks = true) (hmem : memIn ne ni mem = true) (hT : T0.all (fun p => svIn ne ni p.2) = true)
    (S : Nat → Nat → Prop) (w0 : World) (V : VE FD) (hk : KsOK V ni ks) : ∃ V', Agree ne ni V V' ∧ t.post V' (SegK P S w0 N c T0 ts mem V V') := by
  obtain ⟨V', ha, hp⟩ := t.solve ho V hk
  refine ⟨V', ha, t.post_chk hchk (by simp) hp ?_⟩
  intro ds mem' ne' ni' tr v hrun hh
  unfold segRun at hrun
  split at hrun
  · rename_i T' st' ex hcode
    split at hrun
    · rename_i l hpick
      simp only [Option.some.injEq, Prod.mk.injEq] at hrun
      obtain ⟨rfl, rfl⟩ := hrun
      intro B a w htok hrep Q hQ
      refine codeS_sound hC hm hcall c hcode hh B a w (htok.agree ha hT) ((hrep.agree ha hmem).other rfl) Q ?_
      intro X a' w' h1 h2
      exact hQ ex l rfl X a' w' (pick_tok h1 hpick) (h2.other rfl)
    · simp at hrun
  · simp at hrun
/-! from the names of one place to those of another -/
def feEq : FE → FE → Bool
  | .var i, .var j => Nat.beq i j
  | .lit a b c d, .lit a' b' c' d' => Nat.beq a a' && (Nat.beq b b' && (Nat.beq c c' && Nat.beq d d'))
  | _, _ => false
theorem feEq_eq {x y : FE} (h : feEq x y = true) : x = y := by
  cases x <;> cases y <;> simp_all [feEq]
def kEq : IntKind → IntKind → Bool
  | .i8, .i8 | .i16, .i16 | .i32, .i32 | .i64, .i64 | .u8, .u8 | .u16, .u16 | .u32, .u32 | .u64, .u64 => true
  | _, _ => false
theorem kEq_eq {x y : IntKind} (h : kEq x y = true) : x = y := by
  cases x <;> cases y <;> simp_all [kEq]
def intEq : Int → Int → Bool
  | .ofNat a, .ofNat b => Nat.beq a b
  | .negSucc a, .negSucc b => Nat.beq a b
  | _, _ => false
theorem intEq_eq {x y : Int} (h : intEq x y = true) : x = y := by
  cases x <;> cases y <;> simp_all [intEq]
def nth {α : Type} : List α → Nat → Option α
  | [], _ => none
  | x :: _, 0 => some x
  | _ :: r, n + 1 => nth r n
def wordOf (a b c d : Nat) : Nat → Option Nat
  | 0 => some a
  | 1 => some b
  | 2 => some c
  | 3 => some d
  | _ => none
def cellConv (σe : List FE) (σi : List IE) (n : Nat) : SC → SC → Bool
  | .iv k i, .iv k' j => match nth σi j with
    | some (.var i') => kEq k k' && Nat.beq i i'
    | _ => false
  | .lit (.int k z), .iv k' j => match nth σi j with
    | some (.lit z') => kEq k k' && intEq z z'
    | _ => false
  | .lit (.int k z), .lit (.int k' z') => kEq k k' && intEq z z'
  | .lit (.bool b), .lit (.bool b') => b == b'
  | .lit (.pointer none), .lit (.pointer none) => true
  | .wd e i, .wd (.var j) i' => match nth σe j with
    | some e' => feEq e e' && Nat.beq i i'
    | none => false
  | .wd e i, .wd (.lit a b c d) i' => feEq e (.lit a b c d) && Nat.beq i i'
  | .lit (.int .u64 (.ofNat z)), .wd (.var j) i => match nth σe j with
    | some (.lit a b c d) => okLit a b c d && (match wordOf a b c d i with | some z' => Nat.beq z z' | none => false)
    | _ => false
  | .ptr r o, .ptr r' o' => Nat.beq r r' && (Nat.beq o o' && Nat.blt r n)
  | _, _ => false
def cellsConv (σe : List FE) (σi : List IE) (n : Nat) : List SC → List SC → Bool
  | [], [] => true
  | x :: l, y :: m => cellConv σe σi n x y && cellsConv σe σi n l m
  | _, _ => false
def saConv (σe : List FE) (σi : List IE) (n : Nat) : SA → SA → Bool
  | .c x, .c y => cellConv σe σi n x y
  | .agg l, .agg m => cellsConv σe σi n l m
  | _, _ => false
def sasConv (σe : List FE) (σi : List IE) (n : Nat) : List SA → List SA → Bool
  | [], [] => true
  | x :: l, y :: m => saConv σe σi n x y && sasConv σe σi n l m
  | _, _ => false
def memConv (σe : List FE) (σi : List IE) (n : Nat) : Mem → Mem → Bool
  | _, [] => true
  | (b, l) :: r, (b', m) :: r' => (b || !b') && (cellsConv σe σi n l m && memConv σe σi n r r')
  | [], _ :: _ => false
def subV (V : VE FD) (σe : List FE) (σi : List IE) : VE FD :=
  ⟨fun i => match nth σe i with | some e => e.den V | none => (0 : Fp), fun i => match nth σi i with | some e => e.den V | none => 0⟩
theorem cellConv_is {σe : List FE} {σi : List IE} {n : Nat} {x y : SC} (h : cellConv σe σi n x y = true) {V : VE FD} {B : Bs} {u : Value} (hx : x.is V B u) : y.is (subV V σe σi) (B.take n) u := by
  unfold cellConv at h
  split at h
  · rename_i k i k' j
    split at h
    · rename_i i' hj
      simp only [Bool.and_eq_true] at h
      have h1 := kEq_eq h.1
      have h2 := Nat.eq_of_beq_eq_true h.2
      subst h1; subst h2
      show u = .int k ((subV V σe σi).it j)
      have : (subV V σe σi).it j = V.it i := by show (match nth σi j with | some e => e.den V | none => 0) = _; rw [hj]; rfl
      rw [this]; exact hx
    · simp at h
  · rename_i k z k' j
    split at h
    · rename_i z' hj
      simp only [Bool.and_eq_true] at h
      have h1 := kEq_eq h.1
      have h2 := intEq_eq h.2
      subst h1; subst h2
      show u = .int k ((subV V σe σi).it j)
      have : (subV V σe σi).it j = z := by show (match nth σi j with | some e => e.den V | none => 0) = _; rw [hj]; rfl
      rw [this]; exact hx
    · simp at h
  · simp only [Bool.and_eq_true] at h
    have h1 := kEq_eq h.1
    have h2 := intEq_eq h.2
    subst h1; subst h2
    exact hx
  · rename_i b b'
    have : b = b' := by simpa using h
    subst this
    exact hx
  · exact hx
  · rename_i e i j i'
    split at h
    · rename_i e' hj
      simp only [Bool.and_eq_true] at h
      have h1 := feEq_eq h.1
      have h2 := Nat.eq_of_beq_eq_true h.2
      subst h1; subst h2
      show u = .int .u64 (FD.word ((subV V σe σi).el j) i)
      have : (subV V σe σi).el j = e.den V := by show (match nth σe j with | some e => e.den V | none => (0 : Fp)) = _; rw [hj]
      rw [this]; exact hx
    · simp at h
  · rename_i e i a b c d i'
    simp only [Bool.and_eq_true] at h
    have h1 := feEq_eq h.1
    have h2 := Nat.eq_of_beq_eq_true h.2
    subst h1; subst h2
    exact hx
  · rename_i z j i
    split at h
    · rename_i a b c d hj
      simp only [Bool.and_eq_true] at h
      show u = .int .u64 (FD.word ((subV V σe σi).el j) i)
      have : (subV V σe σi).el j = FD.lit a b c d := by show (match nth σe j with | some e => e.den V | none => (0 : Fp)) = _; rw [hj]; rfl
      rw [this]
      have hx : u = .int .u64 (z : Nat) := hx
      rw [hx]
      have hw := h.2
      match i, hw with
      | 0, hw => have := Nat.eq_of_beq_eq_true hw; subst this; rw [FD.lit0 _ _ _ _ h.1]
      | 1, hw => have := Nat.eq_of_beq_eq_true hw; subst this; rw [FD.lit1 _ _ _ _ h.1]
      | 2, hw => have := Nat.eq_of_beq_eq_true hw; subst this; rw [FD.lit2 _ _ _ _ h.1]
      | 3, hw => have := Nat.eq_of_beq_eq_true hw; subst this; rw [FD.lit3 _ _ _ _ h.1]
      | n + 4, hw => simp [wordOf] at hw
    · simp at h
  · rename_i r o r' o'
    simp only [Bool.and_eq_true] at h
    have h1 := Nat.eq_of_beq_eq_true h.1
    have h2 := Nat.eq_of_beq_eq_true h.2.1
    subst h1; subst h2
    obtain ⟨b, o', hb, hu⟩ := hx
    have hr : r < n := Nat.le_of_ble_eq_true h.2.2
    exact ⟨b, o', by rw [List.getElem?_take]; simp [hr, hb], hu⟩
  · simp at h
theorem cellsConv_is {σe : List FE} {σi : List IE} {n : Nat} {V : VE FD} {B : Bs} : ∀ {l m : List SC} {vs : List Value}, cellsConv σe σi n l m = true → LIs V B l vs → LIs (subV V σe σi) (B.take n) m vs
  | [], [], [], _, _ => trivial
  | x :: l, y :: m, v :: vs, h, hl => by
    simp only [cellsConv, Bool.and_eq_true] at h
    exact ⟨cellConv_is h.1 hl.1, cellsConv_is h.2 hl.2⟩
  | [], [], _ :: _, _, hl => hl.elim
  | [], _ :: _, _, h, _ => by simp [cellsConv] at h
  | _ :: _, [], _, h, _ => by simp [cellsConv] at h
  | _ :: _, _ :: _, [], _, hl => hl.elim
theorem cellsConv_len {σe : List FE} {σi : List IE} {n : Nat} : ∀ {l m : List SC}, cellsConv σe σi n l m = true → l.length = m.length
  | [], [], _ => rfl
  | x :: l, y :: m, h => by
    simp only [cellsConv, Bool.and_eq_true] at h
    simp [cellsConv_len h.2]
  | [], _ :: _, h => by simp [cellsConv] at h
  | _ :: _, [], h => by simp [cellsConv] at h
theorem saConv_is {σe : List FE} {σi : List IE} {n : Nat} {x y : SA} (h : saConv σe σi n x y = true) {V : VE FD} {B : Bs} {u : Value} (hx : x.is V B u) : y.is (subV V σe σi) (B.take n) u := by
  cases x <;> cases y <;> simp only [saConv] at h
  · exact cellConv_is h hx
  · simp at h
  · simp at h
  · obtain ⟨vs, h1, h2⟩ := hx; exact ⟨vs, cellsConv_is h h1, h2⟩
theorem zipT_lk {σe : List FE} {σi : List IE} {n : Nat} : ∀ {ts : List Nat} {l m : List SA} {t : Nat} {v : SV}, sasConv σe σi n l m = true → lk (zipT ts m) t = some v → ∃ x y, v = .a y ∧ lk (zipT ts l) t = some (.a x) ∧ saConv σe σi n x y = true
  | [], _, _, _, _, _, h => by simp [zipT, lk] at h
  | _ :: _, _, [], _, _, _, h => by simp [zipT, lk] at h
  | t0 :: r, [], _ :: _, _, _, hc, _ => by simp [sasConv] at hc
  | t0 :: r, x :: l, y :: m, t, v, hc, h => by
    simp only [sasConv, Bool.and_eq_true] at hc
    simp only [zipT, lk] at h ⊢
    split at h
    · rename_i e
      simp only [Option.some.injEq] at h
      exact ⟨x, y, h.symm, rfl, hc.1⟩
    · rename_i e
      obtain ⟨x', y', h1, h2, h3⟩ := zipT_lk hc.2 h
      exact ⟨x', y', h1, h2, h3⟩
theorem zipT_conv {σe : List FE} {σi : List IE} {n N : Nat} {V : VE FD} {B : Bs} {a : Act} {ts : List Nat} {l m : List SA} (hc : sasConv σe σi n l m = true) (h : TOK V B N (mkT (zipT ts l)) a) : TOK (subV V σe σi) (B.take n) N (mkT (zipT ts m)) a :=
  ⟨h.size, fun t v hl => by
    obtain ⟨x, y, rfl, h2, h3⟩ := zipT_lk hc (by rw [← mkT_get]; exact hl)
    obtain ⟨u, hu, hx⟩ := h.look t _ (by rw [mkT_get]; exact h2)
    exact ⟨u, hu, saConv_is h3 hx⟩, h.defers⟩
theorem memConv_get {σe : List FE} {σi : List IE} {n : Nat} : ∀ {l m : Mem} {r : Nat} {b : Bool} {cs : List SC}, memConv σe σi n l m = true → m[r]? = some (b, cs) → ∃ b' cs', l[r]? = some (b', cs') ∧ (b = true → b' = true) ∧ cellsConv σe σi n cs' cs = true
  | _, [], r, b, cs, _, h => by simp at h
  | [], _ :: _, _, _, _, h, _ => by simp [memConv] at h
  | (b0, l0) :: l, (b1, m0) :: m, 0, b, cs, h, hg => by
    simp only [memConv, Bool.and_eq_true] at h
    simp only [List.getElem?_cons_zero, Option.some.injEq, Prod.mk.injEq] at hg
    obtain ⟨rfl, rfl⟩ := hg
    exact ⟨b0, l0, rfl, fun hb => by subst hb; simpa using h.1, h.2.1⟩
  | (b0, l0) :: l, (b1, m0) :: m, r + 1, b, cs, h, hg => by
    simp only [memConv, Bool.and_eq_true] at h
    simpa using memConv_get h.2.2 (r := r) (by simpa using hg)
theorem memConv_len {σe : List FE} {σi : List IE} {n : Nat} : ∀ {l m : Mem}, memConv σe σi n l m = true → m.length ≤ l.length
  | _, [], _ => Nat.zero_le _
  | [], _ :: _, h => by simp [memConv] at h
  | (b0, l0) :: l, (b1, m0) :: m, h => by
    simp only [memConv, Bool.and_eq_true] at h
    simpa using memConv_len h.2.2
theorem Rep.conv {S : Nat → Nat → Prop} {w0 w : World} {V : VE FD} {B : Bs} {mem mem' : Mem} {st : SS} (hst : st.mem = mem) {σe : List FE} {σi : List IE} (h : Rep S w0 V B st w) (hc : memConv σe σi mem'.length mem mem' = true) (ne ni : Nat) (tr : List TOp) (ds : List Bool) :
    Rep S w0 (subV V σe σi) (B.take mem'.length) ⟨mem', ne, ni, tr, ds⟩ w := by
  have hlen : B.length = mem.length := by rw [← hst]; exact h.len
  have hle := memConv_len hc
  have hB : ∀ (r b o : Nat), (B.take mem'.length)[r]? = some (b, o) → B[r]? = some (b, o) := by
    intro r b o hr
    rw [List.getElem?_take] at hr
    split at hr
    · exact hr
    · simp at hr
  refine ⟨h.keeps, by simp [hlen]; omega, ?_, ?_, ?_⟩
  · intro r m cs b o h1 h2
    obtain ⟨b', cs', h3, _, h5⟩ := memConv_get hc h1
    obtain ⟨vs, h6, h7⟩ := h.has r b' cs' b o (by rw [hst]; exact h3) (hB _ _ _ h2)
    exact ⟨vs, cellsConv_is h5 h6, h7⟩
  · intro r cs b o i h1 h2 hi hx
    obtain ⟨b', cs', h3, h4, h5⟩ := memConv_get hc h1
    have := h4 rfl
    subst this
    exact h.wr r cs' b o i (by rw [hst]; exact h3) (hB _ _ _ h2) (by rw [cellsConv_len h5]; exact hi) hx
  · intro r r' m cs m' cs' b o b' o' i j hne h1 h2 hb hb' hi hj
    obtain ⟨q, ds1, h3, _, h5⟩ := memConv_get hc h1
    obtain ⟨q', ds2, h6, _, h8⟩ := memConv_get hc h2
    exact h.disj r r' q ds1 q' ds2 b o b' o' i j hne (by rw [hst]; exact h3) (by rw [hst]; exact h6) (hB _ _ _ hb) (hB _ _ _ hb') (by rw [cellsConv_len h5]; exact hi) (by rw [cellsConv_len h8]; exact hj)
/-- a loop by a shape: what holds of the names, and what falls -/
theorem loop_sx {c : Code} {S : Nat → Nat → Prop} {w0 : World} {N : Nat} {T : TM} {mem : Mem} {B : Bs} {Q : Exit → Act → World → Prop} (I : VE FD → Prop) (μ : VE FD → Nat)
    (hstep : ∀ V, I V → ∀ (R : Exit → Act → World → Prop), (∀ V2, I V2 → μ V2 < μ V → ∀ a w, TOK V2 B N T a → Rep S w0 V2 B ⟨mem, 0, 0, [], []⟩ w → R .normal a w) → (∀ e a w, e ≠ .normal → Q e a w → R e a w) →
      ∀ a w, TOK V B N T a → Rep S w0 V B ⟨mem, 0, 0, [], []⟩ w → c.wp P R a w) :
    ∀ V, I V → ∀ a w, TOK V B N T a → Rep S w0 V B ⟨mem, 0, 0, [], []⟩ w → (Code.loop c).wp P Q a w := by
  have key : ∀ (n : Nat) V, I V → μ V < n → ∀ a w, TOK V B N T a → Rep S w0 V B ⟨mem, 0, 0, [], []⟩ w → Code.rounds P c Q n a w := by
    intro n
    induction n with
    | zero => intro V _ h; omega
    | succ n ih =>
      intro V hI hlt a w ha hw
      rw [rounds_succ]
      refine hstep V hI _ (fun V2 h2 hm a' w' ha' hw' => ?_) (fun e a' w' he hq => ?_) a w ha hw
      · exact ih V2 h2 (by omega) a' w' ha' hw'
      · cases e with
        | normal => exact (he rfl).elim
        | _ => exact hq
  intro V hI a w ha hw
  exact wp_loop_rounds (μ V + 1) (key _ V hI (Nat.lt_succ_self _) a w ha hw)
end
end Go.Proofs.YtnmkmbjbaagojaaGreatDoor
