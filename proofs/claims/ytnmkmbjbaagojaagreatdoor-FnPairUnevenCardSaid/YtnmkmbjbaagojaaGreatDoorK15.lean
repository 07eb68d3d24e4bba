/- A part of the proof of laws.FnPairUneven. -/
import Derived.Test.YtnmkmbjbaagojaaGreatDoorK14
namespace Go.Proofs.YtnmkmbjbaagojaaGreatDoor
open Go
set_option maxRecDepth 100000
set_option linter.unusedVariables false
set_option linter.unusedSimpArgs false
/-! the combination of two numbers of four words -/
def LcT (mk : List SC → List SC → Mem) : PT :=
 (.row (.ibin 10 .shr .i64 (.var 9) (.lit 63)) 
 (.row (.ibin 11 .xor .i64 (.var 9) (.var 10)) 
 (.row (.ibin 12 .sub .i64 (.var 11) (.var 10)) 
 (.row (.ibin 13 .add .u64 (.var 12) (.lit 0)) 
 (.row (.pf 14 2 0 [(.var 4), (.var 13)]) 
 (.row (.pf 16 2 0 [(.var 5), (.var 13)]) 
 (.row (.pf 18 2 1 [(.var 17), (.var 14), (.lit 0)]) 
 (.row (.pf 20 2 1 [(.var 16), (.lit 0), (.var 19)]) 
 (.row (.pf 22 2 0 [(.var 6), (.var 13)]) 
 (.row (.pf 24 2 1 [(.var 23), (.var 20), (.lit 0)]) 
 (.row (.pf 26 2 1 [(.var 22), (.lit 0), (.var 25)]) 
 (.row (.pf 28 2 0 [(.var 7), (.var 13)]) 
 (.row (.pf 30 2 1 [(.var 29), (.var 26), (.lit 0)]) 
 (.row (.pf 32 2 1 [(.var 28), (.lit 0), (.var 31)]) 
 (.test (.cmp .lss (.var 9) (.lit 0) true)
 (.row (.pf 34 2 2 [(.lit 0), (.var 15), (.lit 0)]) 
 (.row (.pf 36 2 2 [(.lit 0), (.var 18), (.var 35)]) 
 (.row (.pf 38 2 2 [(.lit 0), (.var 24), (.var 37)]) 
 (.row (.pf 40 2 2 [(.lit 0), (.var 30), (.var 39)]) 
 (.row (.pf 42 2 2 [(.lit 0), (.var 32), (.var 41)]) 
 (.row (.ibin 44 .shr .i64 (.var 8) (.lit 63)) 
 (.row (.ibin 45 .xor .i64 (.var 8) (.var 44)) 
 (.row (.ibin 46 .sub .i64 (.var 45) (.var 44)) 
 (.row (.ibin 47 .add .u64 (.var 46) (.lit 0)) 
 (.row (.pf 48 2 0 [(.var 0), (.var 47)]) 
 (.row (.pf 50 2 0 [(.var 1), (.var 47)]) 
 (.row (.pf 52 2 1 [(.var 51), (.var 48), (.lit 0)]) 
 (.row (.pf 54 2 1 [(.var 50), (.lit 0), (.var 53)]) 
 (.row (.pf 56 2 0 [(.var 2), (.var 47)]) 
 (.row (.pf 58 2 1 [(.var 57), (.var 54), (.lit 0)]) 
 (.row (.pf 60 2 1 [(.var 56), (.lit 0), (.var 59)]) 
 (.row (.pf 62 2 0 [(.var 3), (.var 47)]) 
 (.row (.pf 64 2 1 [(.var 63), (.var 60), (.lit 0)]) 
 (.row (.pf 66 2 1 [(.var 62), (.lit 0), (.var 65)]) 
 (.test (.cmp .lss (.var 8) (.lit 0) true)
 (.row (.pf 68 2 2 [(.lit 0), (.var 49), (.lit 0)]) 
 (.row (.pf 70 2 2 [(.lit 0), (.var 52), (.var 69)]) 
 (.row (.pf 72 2 2 [(.lit 0), (.var 58), (.var 71)]) 
 (.row (.pf 74 2 2 [(.lit 0), (.var 64), (.var 73)]) 
 (.row (.pf 76 2 2 [(.lit 0), (.var 66), (.var 75)]) 
 (.row (.pf 78 2 1 [(.var 68), (.var 34), (.lit 0)]) 
 (.row (.pf 80 2 1 [(.var 70), (.var 36), (.var 79)]) 
 (.row (.pf 82 2 1 [(.var 72), (.var 38), (.var 81)]) 
 (.row (.pf 84 2 1 [(.var 74), (.var 40), (.var 83)]) 
 (.row (.pf 86 2 1 [(.var 76), (.var 42), (.var 85)]) 
 (.done (mk [.iv .u64 78, .iv .u64 80, .iv .u64 82, .iv .u64 84] [.iv .u64 34, .iv .u64 36, .iv .u64 38, .iv .u64 40]) 0 88 (.a (.c (.iv .u64 86))))))))))))))
 (.row (.pf 68 2 1 [(.var 49), (.var 34), (.lit 0)]) 
 (.row (.pf 70 2 1 [(.var 52), (.var 36), (.var 69)]) 
 (.row (.pf 72 2 1 [(.var 58), (.var 38), (.var 71)]) 
 (.row (.pf 74 2 1 [(.var 64), (.var 40), (.var 73)]) 
 (.row (.pf 76 2 1 [(.var 66), (.var 42), (.var 75)]) 
 (.done (mk [.iv .u64 68, .iv .u64 70, .iv .u64 72, .iv .u64 74] [.iv .u64 34, .iv .u64 36, .iv .u64 38, .iv .u64 40]) 0 78 (.a (.c (.iv .u64 76)))))))))))))))))))))))))))))
 (.row (.ibin 34 .shr .i64 (.var 8) (.lit 63)) 
 (.row (.ibin 35 .xor .i64 (.var 8) (.var 34)) 
 (.row (.ibin 36 .sub .i64 (.var 35) (.var 34)) 
 (.row (.ibin 37 .add .u64 (.var 36) (.lit 0)) 
 (.row (.pf 38 2 0 [(.var 0), (.var 37)]) 
 (.row (.pf 40 2 0 [(.var 1), (.var 37)]) 
 (.row (.pf 42 2 1 [(.var 41), (.var 38), (.lit 0)]) 
 (.row (.pf 44 2 1 [(.var 40), (.lit 0), (.var 43)]) 
 (.row (.pf 46 2 0 [(.var 2), (.var 37)]) 
 (.row (.pf 48 2 1 [(.var 47), (.var 44), (.lit 0)]) 
 (.row (.pf 50 2 1 [(.var 46), (.lit 0), (.var 49)]) 
 (.row (.pf 52 2 0 [(.var 3), (.var 37)]) 
 (.row (.pf 54 2 1 [(.var 53), (.var 50), (.lit 0)]) 
 (.row (.pf 56 2 1 [(.var 52), (.lit 0), (.var 55)]) 
 (.test (.cmp .lss (.var 8) (.lit 0) true)
 (.row (.pf 58 2 2 [(.lit 0), (.var 39), (.lit 0)]) 
 (.row (.pf 60 2 2 [(.lit 0), (.var 42), (.var 59)]) 
 (.row (.pf 62 2 2 [(.lit 0), (.var 48), (.var 61)]) 
 (.row (.pf 64 2 2 [(.lit 0), (.var 54), (.var 63)]) 
 (.row (.pf 66 2 2 [(.lit 0), (.var 56), (.var 65)]) 
 (.row (.pf 68 2 1 [(.var 58), (.var 15), (.lit 0)]) 
 (.row (.pf 70 2 1 [(.var 60), (.var 18), (.var 69)]) 
 (.row (.pf 72 2 1 [(.var 62), (.var 24), (.var 71)]) 
 (.row (.pf 74 2 1 [(.var 64), (.var 30), (.var 73)]) 
 (.row (.pf 76 2 1 [(.var 66), (.var 32), (.var 75)]) 
 (.done (mk [.iv .u64 68, .iv .u64 70, .iv .u64 72, .iv .u64 74] [.iv .u64 15, .iv .u64 18, .iv .u64 24, .iv .u64 30]) 0 78 (.a (.c (.iv .u64 76))))))))))))))
 (.row (.pf 58 2 1 [(.var 39), (.var 15), (.lit 0)]) 
 (.row (.pf 60 2 1 [(.var 42), (.var 18), (.var 59)]) 
 (.row (.pf 62 2 1 [(.var 48), (.var 24), (.var 61)]) 
 (.row (.pf 64 2 1 [(.var 54), (.var 30), (.var 63)]) 
 (.row (.pf 66 2 1 [(.var 56), (.var 32), (.var 65)]) 
 (.done (mk [.iv .u64 58, .iv .u64 60, .iv .u64 62, .iv .u64 64] [.iv .u64 15, .iv .u64 18, .iv .u64 24, .iv .u64 30]) 0 68 (.a (.c (.iv .u64 66)))))))))))))))))))))))))))))))))))))))
/-- a number without its sign, aas a word -/
theorem abs_word {y m x d w : Int} (hy : isI y) (hm : m = ibinF .shr .i64 y 63) (hx : x = ibinF .xor .i64 y m) (hd : d = ibinF .sub .i64 x m) (hw : w = ibinF .add .u64 d 0) : isW w ∧ ((0 ≤ y ∧ w = y) ∨ (y < 0 ∧ w = -y)) := by
  have hm' : m = y / 9223372036854775808 := by
    rw [hm]
    show y.fdiv (2 ^ (min (63 : Int).toNat 64)) = _
    rw [Int.fdiv_eq_ediv_of_nonneg _ (by decide)]
    rfl
  unfold isI at hy
  simp only [Int.reducePow, Int.reduceNeg] at hy
  have hbits : IntKind.bits .i64 = 64 := rfl
  rcases Int.lt_or_le y 0 with hn | hn
  · have hm1 : m = -1 := by omega
    have hx1 : x = -y - 1 := by
      rw [hx, hm1]
      show IntKind.wrap .i64 ((BitVec.ofInt 64 y ^^^ BitVec.ofInt 64 (-1)).toNat : Int) = _
      have e1 : BitVec.ofInt 64 (-1) = BitVec.allOnes 64 := by decide
      have e2 : (BitVec.ofInt 64 y ^^^ BitVec.ofInt 64 (-1)).toNat = (-y - 1).toNat := by
        rw [e1, BitVec.xor_allOnes, BitVec.toNat_not, BitVec.toNat_ofInt]
        omega
      rw [e2, wrap_i64_eq]
      simp only [Int.reducePow]
      omega
    have hd1 : d = if y = -9223372036854775808 then -9223372036854775808 else -y := by
      rw [hd, hx1, hm1]
      show IntKind.wrap .i64 (-y - 1 - -1) = _
      rw [wrap_i64_eq]
      simp only [Int.reducePow]
      split <;> split <;> omega
    have hw1 : w = d % 18446744073709551616 := by
      rw [hw]
      show IntKind.wrap .u64 (d + 0) = _
      rw [Int.add_zero]; rfl
    unfold isW
    simp only [Int.reducePow]
    split at hd1 <;> omega
  · have hm1 : m = 0 := by omega
    have hx1 : x = y := by
      rw [hx, hm1]
      show IntKind.wrap .i64 ((BitVec.ofInt 64 y ^^^ BitVec.ofInt 64 0).toNat : Int) = _
      have e1 : BitVec.ofInt 64 0 = 0#64 := by decide
      have e2 : (BitVec.ofInt 64 y ^^^ BitVec.ofInt 64 0).toNat = y.toNat := by
        rw [e1, BitVec.xor_zero, BitVec.toNat_ofInt]
        omega
      rw [e2, wrap_i64_eq]
      simp only [Int.reducePow]
      omega
    have hd1 : d = y := by
      rw [hd, hx1, hm1]
      show IntKind.wrap .i64 (y - 0) = _
      rw [wrap_i64_eq]
      simp only [Int.reducePow]
      omega
    have hw1 : w = d % 18446744073709551616 := by
      rw [hw]
      show IntKind.wrap .u64 (d + 0) = _
      rw [Int.add_zero]; rfl
    unfold isW
    simp only [Int.reducePow]
    omega
def v5 (a b c d e : Int) : Int := a + 18446744073709551616 * b + 340282366920938463463374607431768211456 * c + 6277101735386680763835789423207666416102355444464034512896 * d + 115792089237316195423570985008687907853269984665640564039457584007913129639936 * e
theorem mulw_words {p0 p1 p2 p3 h0 l0 h1 l1 s1 c1 t1 d1 h2 l2 s2 c2 t2 d2 h3 l3 s3 c3 t3 d3 : Int} (e0 : h0 * 18446744073709551616 + l0 = p0) (e1 : h1 * 18446744073709551616 + l1 = p1) (f1 : s1 + 18446744073709551616 * c1 = l1 + h0 + 0) (g1 : t1 + 18446744073709551616 * d1 = h1 + 0 + c1)
    (e2 : h2 * 18446744073709551616 + l2 = p2) (f2 : s2 + 18446744073709551616 * c2 = l2 + t1 + 0) (g2 : t2 + 18446744073709551616 * d2 = h2 + 0 + c2) (e3 : h3 * 18446744073709551616 + l3 = p3) (f3 : s3 + 18446744073709551616 * c3 = l3 + t2 + 0) (g3 : t3 + 18446744073709551616 * d3 = h3 + 0 + c3)
    (k1 : p1 ≤ 340282366920938463426481119284349108225) (k2 : p2 ≤ 340282366920938463426481119284349108225) (k3 : p3 ≤ 340282366920938463426481119284349108225) (b0 : 0 ≤ l1) (b1 : 0 ≤ l2) (b2 : 0 ≤ l3) (y1 : c1 ≤ 1) (y2 : c2 ≤ 1) (y3 : c3 ≤ 1) (z1 : 0 ≤ t1) (z2 : 0 ≤ t2) (z3 : 0 ≤ t3) (q1 : 0 ≤ d1) (q2 : 0 ≤ d2) (q3 : 0 ≤ d3)  :
    v5 l0 s1 s2 s3 t3 = p0 + 18446744073709551616 * p1 + 340282366920938463463374607431768211456 * p2 + 6277101735386680763835789423207666416102355444464034512896 * p3 := by
  unfold v5
  have r1 : d1 = 0 := by omega
  have r2 : d2 = 0 := by omega
  have r3 : d3 = 0 := by omega
  subst r1; subst r2; subst r3
  omega
theorem neg_words {a b c d e n0 n1 n2 n3 n4 c0 c1 c2 c3 c4 : Int} (e0 : n0 + a + 0 = 0 + 18446744073709551616 * c0) (e1 : n1 + b + c0 = 0 + 18446744073709551616 * c1) (e2 : n2 + c + c1 = 0 + 18446744073709551616 * c2) (e3 : n3 + d + c2 = 0 + 18446744073709551616 * c3) (e4 : n4 + e + c3 = 0 + 18446744073709551616 * c4) :
    v5 n0 n1 n2 n3 n4 = -v5 a b c d e + 2135987035920910082395021706169552114602704522356652769947041607822219725780640550022962086936576 * c4 := by
  unfold v5; omega
theorem sum_words {a b c d e a' b' c' d' e' n0 n1 n2 n3 n4 c0 c1 c2 c3 c4 : Int} (e0 : n0 + 18446744073709551616 * c0 = a + a' + 0) (e1 : n1 + 18446744073709551616 * c1 = b + b' + c0) (e2 : n2 + 18446744073709551616 * c2 = c + c' + c1) (e3 : n3 + 18446744073709551616 * c3 = d + d' + c2) (e4 : n4 + 18446744073709551616 * c4 = e + e' + c3) :
    v5 n0 n1 n2 n3 n4 = v5 a b c d e + v5 a' b' c' d' e' - 2135987035920910082395021706169552114602704522356652769947041607822219725780640550022962086936576 * c4 := by
  unfold v5; omega
theorem w5_of {v n0 n1 n2 n3 n4 k : Int} (h0 : isW n0) (h1 : isW n1) (h2 : isW n2) (h3 : isW n3) (h4 : isW n4) (h : v5 n0 n1 n2 n3 n4 = v + 2135987035920910082395021706169552114602704522356652769947041607822219725780640550022962086936576 * k) : w5 v = [n0, n1, n2, n3, n4] := by
  unfold isW v5 at *
  unfold w5
  simp only [Int.reducePow, List.cons.injEq, and_true] at *
  refine ⟨?_, ?_, ?_, ?_, ?_⟩ <;> omega
theorem mul_bd {x y : Int} (hx : isW x) (hy : isW y) : x * y ≤ 340282366920938463426481119284349108225 := by
  have h1 : x * y ≤ 18446744073709551615 * y := Int.mul_le_mul_of_nonneg_right (by have := hx.2; omega) hy.1
  have := hy.2
  omega
/-- the product by a word -/
theorem mulw_val {x0 x1 x2 x3 w h0 l0 h1 l1 s1 c1 t1 d1 h2 l2 s2 c2 t2 d2 h3 l3 s3 c3 t3 d3 : Int} (wx0 : isW x0) (wx1 : isW x1) (wx2 : isW x2) (wx3 : isW x3) (ww : isW w)
    (e0 : h0 * 18446744073709551616 + l0 = x0 * w ∧ 0 ≤ h0 ∧ 0 ≤ l0 ∧ l0 < 18446744073709551616) (e1 : h1 * 18446744073709551616 + l1 = x1 * w ∧ 0 ≤ h1 ∧ 0 ≤ l1 ∧ l1 < 18446744073709551616)
    (f1 : s1 + 18446744073709551616 * c1 = l1 + h0 + 0 ∧ 0 ≤ s1 ∧ s1 < 18446744073709551616 ∧ 0 ≤ c1 ∧ c1 ≤ 1) (g1 : t1 + 18446744073709551616 * d1 = h1 + 0 + c1 ∧ 0 ≤ t1 ∧ t1 < 18446744073709551616 ∧ 0 ≤ d1 ∧ d1 ≤ 1)
    (e2 : h2 * 18446744073709551616 + l2 = x2 * w ∧ 0 ≤ h2 ∧ 0 ≤ l2 ∧ l2 < 18446744073709551616) (f2 : s2 + 18446744073709551616 * c2 = l2 + t1 + 0 ∧ 0 ≤ s2 ∧ s2 < 18446744073709551616 ∧ 0 ≤ c2 ∧ c2 ≤ 1) (g2 : t2 + 18446744073709551616 * d2 = h2 + 0 + c2 ∧ 0 ≤ t2 ∧ t2 < 18446744073709551616 ∧ 0 ≤ d2 ∧ d2 ≤ 1)
    (e3 : h3 * 18446744073709551616 + l3 = x3 * w ∧ 0 ≤ h3 ∧ 0 ≤ l3 ∧ l3 < 18446744073709551616) (f3 : s3 + 18446744073709551616 * c3 = l3 + t2 + 0 ∧ 0 ≤ s3 ∧ s3 < 18446744073709551616 ∧ 0 ≤ c3 ∧ c3 ≤ 1) (g3 : t3 + 18446744073709551616 * d3 = h3 + 0 + c3 ∧ 0 ≤ t3 ∧ t3 < 18446744073709551616 ∧ 0 ≤ d3 ∧ d3 ≤ 1) :
    v5 l0 s1 s2 s3 t3 = w * val4I x0 x1 x2 x3 := by
  rw [mulw_words e0.1 e1.1 f1.1 g1.1 e2.1 f2.1 g2.1 e3.1 f3.1 g3.1 (mul_bd wx1 ww) (mul_bd wx2 ww) (mul_bd wx3 ww) e1.2.2.1 e2.2.2.1 e3.2.2.1 f1.2.2.2.2 f2.2.2.2.2 f3.2.2.2.2 g1.2.1 g2.2.1 g3.2.1 g1.2.2.2.1 g2.2.2.2.1 g3.2.2.2.1]
  unfold val4I
  rw [Int.mul_comm x0, Int.mul_comm x1, Int.mul_comm x2, Int.mul_comm x3]
  simp only [Int.reducePow, Int.mul_add, Int.mul_left_comm w]
  omega
theorem cmp_lt_t {V : VE FD} {a b : IE} {z : Bool} (h : (flipT true (.cmp .lss a b z)).holds V) : a.den V < b.den V := of_decide_eq_true h
theorem cmp_lt_f {V : VE FD} {a b : IE} {z : Bool} (h : (flipT false (.cmp .lss a b z)).holds V) : b.den V ≤ a.den V := by
  have := of_decide_eq_false h
  omega
theorem Lc_val {V : VE FD} {K : Mem → SV → Prop} {mk : List SC → List SC → Mem} (hx0 : isW (V.it 0)) (hx1 : isW (V.it 1)) (hx2 : isW (V.it 2)) (hx3 : isW (V.it 3)) (hy0 : isW (V.it 4)) (hy1 : isW (V.it 5)) (hy2 : isW (V.it 6)) (hy3 : isW (V.it 7)) (hf : isI (V.it 8)) (hg : isI (V.it 9)) (hp : (LcT mk).post V K) :
    ∃ (c0 c1 c2 c3 h : Nat) (yt : List SC), w5 (V.it 8 * val4I (V.it 0) (V.it 1) (V.it 2) (V.it 3) + V.it 9 * val4I (V.it 4) (V.it 5) (V.it 6) (V.it 7)) = [V.it c0, V.it c1, V.it c2, V.it c3, V.it h] ∧ K (mk [.iv .u64 c0, .iv .u64 c1, .iv .u64 c2, .iv .u64 c3] yt) (.a (.c (.iv .u64 h))) := by
  obtain ⟨h10, h11, h12, h13, a0, a1, a2, a3, a4, a5, a6, a7, a8, a9, hp⟩ := hp
  obtain ⟨ww, hw⟩ := abs_word hg h10 h11 h12 h13
  have a0 := pf0 a0
  have a1 := pf0 a1
  have a2 := pf1 a2
  have a3 := pf1 a3
  have a4 := pf0 a4
  have a5 := pf1 a5
  have a6 := pf1 a6
  have a7 := pf0 a7
  have a8 := pf1 a8
  have a9 := pf1 a9
  simp only [IE.den_lit, IE.den_var, Nat.reduceAdd, Nat.add_zero] at a0 a1 a2 a3 a4 a5 a6 a7 a8 a9
  have hY := mulw_val hy0 hy1 hy2 hy3 ww a0 a1 a2 a3 a4 a5 a6 a7 a8 a9
  have key : ∀ {i0 i1 i2 i3 i4 : Nat} {kY : Int}, v5 (V.it i0) (V.it i1) (V.it i2) (V.it i3) (V.it i4) = V.it 9 * val4I (V.it 4) (V.it 5) (V.it 6) (V.it 7) + 2135987035920910082395021706169552114602704522356652769947041607822219725780640550022962086936576 * kY →
      ∀ {j0 j1 j2 j3 j4 : Nat} {kX : Int}, v5 (V.it j0) (V.it j1) (V.it j2) (V.it j3) (V.it j4) = V.it 8 * val4I (V.it 0) (V.it 1) (V.it 2) (V.it 3) + 2135987035920910082395021706169552114602704522356652769947041607822219725780640550022962086936576 * kX →
      ∀ {n : Nat}, (TOp.pf n 2 1 [.var j0, .var i0, .lit 0]).holds V → (TOp.pf (n + 2) 2 1 [.var j1, .var i1, .var (n + 1)]).holds V → (TOp.pf (n + 4) 2 1 [.var j2, .var i2, .var (n + 3)]).holds V → (TOp.pf (n + 6) 2 1 [.var j3, .var i3, .var (n + 5)]).holds V → (TOp.pf (n + 8) 2 1 [.var j4, .var i4, .var (n + 7)]).holds V →
      w5 (V.it 8 * val4I (V.it 0) (V.it 1) (V.it 2) (V.it 3) + V.it 9 * val4I (V.it 4) (V.it 5) (V.it 6) (V.it 7)) = [V.it n, V.it (n + 2), V.it (n + 4), V.it (n + 6), V.it (n + 8)] := by
    intro i0 i1 i2 i3 i4 kY hy j0 j1 j2 j3 j4 kX hx n s0 s1 s2 s3 s4
    have s0 := pf1 s0
    have s1 := pf1 s1
    have s2 := pf1 s2
    have s3 := pf1 s3
    have s4 := pf1 s4
    simp only [IE.den_lit, IE.den_var, Nat.add_zero, Nat.add_assoc, Nat.reduceAdd] at s0 s1 s2 s3 s4
    have hs := sum_words s0.1 s1.1 s2.1 s3.1 s4.1
    refine w5_of (k := kX + kY - V.it (n + 9)) ⟨s0.2.1, s0.2.2.1⟩ ⟨s1.2.1, s1.2.2.1⟩ ⟨s2.2.1, s2.2.2.1⟩ ⟨s3.2.1, s3.2.2.1⟩ ⟨s4.2.1, s4.2.2.1⟩ ?_
    rw [hs, hx, hy]
    omega
  rcases hp with ⟨ht, b0, b1, b2, b3, b4, h10, h11, h12, h13, a0, a1, a2, a3, a4, a5, a6, a7, a8, a9, hp⟩ | ⟨ht, h10, h11, h12, h13, a0, a1, a2, a3, a4, a5, a6, a7, a8, a9, hp⟩
  · have ht := cmp_lt_t ht
    simp only [IE.den_var, IE.den_lit] at ht
    have b0 := pf2 b0
    have b1 := pf2 b1
    have b2 := pf2 b2
    have b3 := pf2 b3
    have b4 := pf2 b4
    simp only [IE.den_lit, IE.den_var, Nat.reduceAdd, Nat.add_zero] at b0 b1 b2 b3 b4
    have hn := neg_words b0.1 b1.1 b2.1 b3.1 b4.1
    rw [hY] at hn
    have hw9 : V.it 13 = -V.it 9 := by omega
    rw [hw9, Int.neg_mul, Int.neg_neg] at hn
    obtain ⟨ww, hw⟩ := abs_word hf h10 h11 h12 h13
    have a0 := pf0 a0
    have a1 := pf0 a1
    have a2 := pf1 a2
    have a3 := pf1 a3
    have a4 := pf0 a4
    have a5 := pf1 a5
    have a6 := pf1 a6
    have a7 := pf0 a7
    have a8 := pf1 a8
    have a9 := pf1 a9
    simp only [IE.den_lit, IE.den_var, Nat.reduceAdd, Nat.add_zero] at a0 a1 a2 a3 a4 a5 a6 a7 a8 a9
    have hX := mulw_val hx0 hx1 hx2 hx3 ww a0 a1 a2 a3 a4 a5 a6 a7 a8 a9
    rcases hp with ⟨ht2, d0, d1, d2, d3, d4, s0, s1, s2, s3, s4, hk⟩ | ⟨ht2, s0, s1, s2, s3, s4, hk⟩
    · have ht2 := cmp_lt_t ht2
      simp only [IE.den_var, IE.den_lit] at ht2
      have d0 := pf2 d0
      have d1 := pf2 d1
      have d2 := pf2 d2
      have d3 := pf2 d3
      have d4 := pf2 d4
      simp only [IE.den_lit, IE.den_var, Nat.reduceAdd, Nat.add_zero] at d0 d1 d2 d3 d4
      have hm := neg_words d0.1 d1.1 d2.1 d3.1 d4.1
      rw [hX] at hm
      have hw8 : V.it 47 = -V.it 8 := by omega
      rw [hw8, Int.neg_mul, Int.neg_neg] at hm
      exact ⟨_, _, _, _, _, _, key hn hm s0 s1 s2 s3 s4, hk⟩
    · have ht2 := cmp_lt_f ht2
      simp only [IE.den_var, IE.den_lit] at ht2
      have hw8 : V.it 47 = V.it 8 := by omega
      rw [hw8] at hX
      exact ⟨_, _, _, _, _, _, key hn (kX := 0) (by rw [hX]; omega) s0 s1 s2 s3 s4, hk⟩
  · have ht := cmp_lt_f ht
    simp only [IE.den_var, IE.den_lit] at ht
    have hw9 : V.it 13 = V.it 9 := by omega
    rw [hw9] at hY
    obtain ⟨ww, hw⟩ := abs_word hf h10 h11 h12 h13
    have a0 := pf0 a0
    have a1 := pf0 a1
    have a2 := pf1 a2
    have a3 := pf1 a3
    have a4 := pf0 a4
    have a5 := pf1 a5
    have a6 := pf1 a6
    have a7 := pf0 a7
    have a8 := pf1 a8
    have a9 := pf1 a9
    simp only [IE.den_lit, IE.den_var, Nat.reduceAdd, Nat.add_zero] at a0 a1 a2 a3 a4 a5 a6 a7 a8 a9
    have hX := mulw_val hx0 hx1 hx2 hx3 ww a0 a1 a2 a3 a4 a5 a6 a7 a8 a9
    rcases hp with ⟨ht2, d0, d1, d2, d3, d4, s0, s1, s2, s3, s4, hk⟩ | ⟨ht2, s0, s1, s2, s3, s4, hk⟩
    · have ht2 := cmp_lt_t ht2
      simp only [IE.den_var, IE.den_lit] at ht2
      have d0 := pf2 d0
      have d1 := pf2 d1
      have d2 := pf2 d2
      have d3 := pf2 d3
      have d4 := pf2 d4
      simp only [IE.den_lit, IE.den_var, Nat.reduceAdd, Nat.add_zero] at d0 d1 d2 d3 d4
      have hm := neg_words d0.1 d1.1 d2.1 d3.1 d4.1
      rw [hX] at hm
      have hw8 : V.it 37 = -V.it 8 := by omega
      rw [hw8, Int.neg_mul, Int.neg_neg] at hm
      exact ⟨_, _, _, _, _, _, key (kY := 0) (by rw [hY]; omega) hm s0 s1 s2 s3 s4, hk⟩
    · have ht2 := cmp_lt_f ht2
      simp only [IE.den_var, IE.den_lit] at ht2
      have hw8 : V.it 37 = V.it 8 := by omega
      rw [hw8] at hX
      exact ⟨_, _, _, _, _, _, key (kY := 0) (by rw [hY]; omega) (kX := 0) (by rw [hX]; omega) s0 s1 s2 s3 s4, hk⟩
/-! the leaves that read words: the combination -/
def VL (x0 x1 x2 x3 y0 y1 y2 y3 a c : Int) : VE FD := ⟨fun _ => (0 : Fp), fun i => match i with | 0 => x0 | 1 => x1 | 2 => x2 | 3 => x3 | 4 => y0 | 5 => y1 | 6 => y2 | 7 => y3 | 8 => a | 9 => c | _ => 0⟩
def k10 : List Nat := [4, 4, 1, 1, 1, 1, 1, 1, 1, 1]
def iv8 : SV := .a (.c (.iv .i64 8))
def iv9 : SV := .a (.c (.iv .i64 9))
theorem lc_leaf {P : Program} {call : CallF} (hcall : CallOK P FD call) {f : Nat}
    (hc1 : ∀ va vb vc vd : Value, (LcT (fun z yt => [(true, z), (false, cl 0), (false, cl 4), (true, yt)])).chk (fun ds => call f [pS 0, pS 1, iv8, pS 2, iv9] ⟨[(true, [.lit va, .lit vb, .lit vc, .lit vd]), (false, cl 0), (false, cl 4)], 0, 10, [], ds⟩) [] [])
    (hc2 : (LcT (fun z yt => [(true, z), (false, cl 0), (true, yt)])).chk (fun ds => call f [pS 0, pS 1, iv8, pS 0, iv9] ⟨[(true, cl 4), (false, cl 0)], 0, 10, [], ds⟩) [] [])
    (hc3 : (LcT (fun z yt => [(true, z), (false, cl 4), (true, yt)])).chk (fun ds => call f [pS 0, pS 0, iv8, pS 1, iv9] ⟨[(true, cl 0), (false, cl 4)], 0, 10, [], ds⟩) [] []) : PrimOK P FD f (.lc 12) := by
  intro w b o b1 o1 b2 o2 xs ys a c old hz hol hx hxl hy hyl a01 a02 a12 hn
  match xs, ys, hxl, hyl, old, hol with
  | [x0, x1, x2, x3], [y0, y1, y2, y3], _, _, [va, vb, vc, vd], _ =>
    obtain ⟨p0, p1, p2, p3, pa, q0, q1, q2, q3, pc⟩ := hn
    have hks : KsOK (VL x0 x1 x2 x3 y0 y1 y2 y3 a c) 10 k10 := ⟨pc, pa, q3, q2, q1, q0, p3, p2, p1, p0, trivial⟩
    have lx : ∀ B, LIs (VL x0 x1 x2 x3 y0 y1 y2 y3 a c) B (cl 0) ([x0, x1, x2, x3].map (Value.int .u64)) := fun B => ⟨rfl, rfl, rfl, rfl, trivial⟩
    have ly : ∀ B, LIs (VL x0 x1 x2 x3 y0 y1 y2 y3 a c) B (cl 4) ([y0, y1, y2, y3].map (Value.int .u64)) := fun B => ⟨rfl, rfl, rfl, rfl, trivial⟩
    have go : ∀ (B : Bs) (m0 : Mem) (mk : List SC → List SC → Mem) (vs : List SV) (us : List Value), (∀ z yt, ∃ rest, mk z yt = (true, z) :: rest) → B[0]? = some (b, o) → (LcT mk).chk (fun ds => call f vs ⟨m0, 0, 10, [], ds⟩) [] [] → (LcT mk).ok 0 10 k10 = true → memIn 0 10 m0 = true → vs.all (svIn 0 10) = true →
        Rep (Rg b o 4) w (VL x0 x1 x2 x3 y0 y1 y2 y3 a c) B ⟨m0, 0, 10, [], []⟩ w → SVs (VL x0 x1 x2 x3 y0 y1 y2 y3 a c) B vs us →
        ∃ z0 z1 z2 z3 h, FD.pf 12 ([x0, x1, x2, x3] ++ a :: ([y0, y1, y2, y3] ++ [c])) = [z0, z1, z2, z3, h] ∧ Calls P f us.toArray w fun e w' => e = .returned (.int .u64 h) ∧ Keeps (Rg b o 4) w w' ∧ HasC w' b o [.int .u64 z0, .int .u64 z1, .int .u64 z2, .int .u64 z3] := by
      intro B m0 mk vs us hmk hB h1 h2 h3 h4 h5 h6
      obtain ⟨V', ha, hp⟩ := PT.run hcall _ h1 h2 h3 h4 _ hks h5 h6
      have e : ∀ i, i < 10 → V'.it i = (VL x0 x1 x2 x3 y0 y1 y2 y3 a c).it i := fun i hi => ha.2 i hi
      have e0 : V'.it 0 = x0 := e 0 (by omega)
      have e1 : V'.it 1 = x1 := e 1 (by omega)
      have e2 : V'.it 2 = x2 := e 2 (by omega)
      have e3 : V'.it 3 = x3 := e 3 (by omega)
      have e4 : V'.it 4 = y0 := e 4 (by omega)
      have e5 : V'.it 5 = y1 := e 5 (by omega)
      have e6 : V'.it 6 = y2 := e 6 (by omega)
      have e7 : V'.it 7 = y3 := e 7 (by omega)
      have e8 : V'.it 8 = a := e 8 (by omega)
      have e9 : V'.it 9 = c := e 9 (by omega)
      obtain ⟨c0, c1, c2, c3, h, yt, hv, hk⟩ := Lc_val (by rw [e0]; exact p0) (by rw [e1]; exact p1) (by rw [e2]; exact p2) (by rw [e3]; exact p3) (by rw [e4]; exact q0) (by rw [e5]; exact q1) (by rw [e6]; exact q2) (by rw [e7]; exact q3) (by rw [e8]; exact pa) (by rw [e9]; exact pc) hp
      rw [e0, e1, e2, e3, e4, e5, e6, e7, e8, e9] at hv
      obtain ⟨rest, hrest⟩ := hmk [.iv .u64 c0, .iv .u64 c1, .iv .u64 c2, .iv .u64 c3] yt
      rw [hrest] at hk
      refine ⟨_, _, _, _, _, hv, hk.mono ?_⟩
      rintro en w' ⟨u, X, rfl, hr, hu⟩
      have hu : u = .int .u64 (V'.it h) := hu
      subst hu
      have hB' : (B ++ X)[0]? = some (b, o) := bs_mono X hB
      obtain ⟨vs1, h7, h8⟩ := hr.has 0 true _ b o rfl hB'
      have h9 : LIs V' (B ++ X) [.iv .u64 c0, .iv .u64 c1, .iv .u64 c2, .iv .u64 c3] [.int .u64 (V'.it c0), .int .u64 (V'.it c1), .int .u64 (V'.it c2), .int .u64 (V'.it c3)] := ⟨rfl, rfl, rfl, rfl, trivial⟩
      have := LIs_fun h7 h9
      subst this
      exact ⟨rfl, hr.keeps, h8⟩
    by_cases e02 : b = b2 ∧ o = o2
    · obtain ⟨rfl, rfl⟩ := e02
      have a01 : ∀ i j, i < 4 → j < 4 → ¬ (b = b1 ∧ o + i = o1 + j) := fun i j hi hj h => a12 j i hj hi ⟨h.1.symm, h.2.symm⟩
      exact go [(b, o), (b1, o1)] _ (fun z yt => [(true, z), (false, cl 0), (true, yt)]) _ [pt b o, pt b1 o1, .int .i64 a, pt b o, .int .i64 c] (fun _ _ => ⟨_, rfl⟩) rfl hc2 (by kernel_rfl) rfl rfl
        (((rep1 (V := VL x0 x1 x2 x3 y0 y1 y2 y3 a c) (c := cl 4) (ly [(b, o)]) hy rfl []).more1 (lx _) hx (only1 a01)).other rfl)
        ⟨⟨b, o, rfl, rfl⟩, ⟨b1, o1, rfl, rfl⟩, rfl, ⟨b, o, rfl, rfl⟩, rfl, trivial⟩
    · by_cases e01 : b = b1 ∧ o = o1
      · obtain ⟨rfl, rfl⟩ := e01
        exact go [(b, o), (b2, o2)] _ (fun z yt => [(true, z), (false, cl 4), (true, yt)]) _ [pt b o, pt b o, .int .i64 a, pt b2 o2, .int .i64 c] (fun _ _ => ⟨_, rfl⟩) rfl hc3 (by kernel_rfl) rfl rfl
          (((rep1 (V := VL x0 x1 x2 x3 y0 y1 y2 y3 a c) (c := cl 0) (lx [(b, o)]) hx rfl []).more1 (ly _) hy (only1 a12)).other rfl)
          ⟨⟨b, o, rfl, rfl⟩, ⟨b, o, rfl, rfl⟩, rfl, ⟨b2, o2, rfl, rfl⟩, rfl, trivial⟩
      · exact go [(b, o), (b1, o1), (b2, o2)] _ (fun z yt => [(true, z), (false, cl 0), (false, cl 4), (true, yt)]) _ [pt b o, pt b1 o1, .int .i64 a, pt b2 o2, .int .i64 c] (fun _ _ => ⟨_, rfl⟩) rfl (hc1 va vb vc vd) (by kernel_rfl) rfl rfl
          ((((rep1 (V := VL x0 x1 x2 x3 y0 y1 y2 y3 a c) (c := [.lit va, .lit vb, .lit vc, .lit vd]) (v := [va, vb, vc, vd]) (LIs.lits _ _ [va, vb, vc, vd]) hz rfl []).more1 (lx _) hx (only1 (a01.off e01))).more1 (ly _) hy (only2 (a02.off e02) a12)).other rfl)
          ⟨⟨b, o, rfl, rfl⟩, ⟨b1, o1, rfl, rfl⟩, rfl, ⟨b2, o2, rfl, rfl⟩, rfl, trivial⟩
/-! the digits of a number, its approximation -/
def dn4 (n : Nat) (v : SV) : PT := .done [(false, cl 0)] 0 n v
def BitLenT : PT :=
  .test (.cmp .neq (.var 3) (.lit 0) true)
   (.row (.pf 4 1 3 [(.var 3)])
   (.row (.ibin 5 .add .i64 (.lit 192) (.var 4))
   (dn4 6 (.a (.c (.iv .i64 5))))))
   (.test (.cmp .neq (.var 2) (.lit 0) true)
   (.row (.pf 4 1 3 [(.var 2)])
   (.row (.ibin 5 .add .i64 (.lit 128) (.var 4))
   (dn4 6 (.a (.c (.iv .i64 5))))))
   (.test (.cmp .neq (.var 1) (.lit 0) true)
   (.row (.pf 4 1 3 [(.var 1)])
   (.row (.ibin 5 .add .i64 (.lit 64) (.var 4))
   (dn4 6 (.a (.c (.iv .i64 5))))))
   (.row (.pf 4 1 3 [(.var 0)])
   (dn4 5 (.a (.c (.iv .i64 4)))))))
theorem blen_eq {n k : Nat} (h : 2 ^ k ≤ n) (h' : n < 2 ^ (k + 1)) : blen n = k + 1 := by
  have h0 : n ≠ 0 := by have : 0 < 2 ^ k := Nat.pow_pos (by decide)
                        omega
  unfold blen
  rw [if_neg h0, (Nat.log2_eq_iff h0).2 ⟨h, h'⟩]
theorem blen_shift {x y k : Nat} (hx : x < 2 ^ k) (hy : y ≠ 0) : blen (x + 2 ^ k * y) = k + blen y := by
  have h1 : blen y = Nat.log2 y + 1 := if_neg hy
  obtain ⟨h2, h3⟩ := (Nat.log2_eq_iff hy).1 rfl
  rw [h1]
  generalize Nat.log2 y = m at *
  have h4 : 2 ^ k * 2 ^ m ≤ 2 ^ k * y := Nat.mul_le_mul_left _ h2
  have h5 : 2 ^ k * (y + 1) ≤ 2 ^ k * 2 ^ (m + 1) := Nat.mul_le_mul_left _ h3
  rw [← Nat.pow_add] at h4 h5
  rw [Nat.mul_add, Nat.mul_one] at h5
  exact blen_eq (k := k + m) (by omega) (by rw [show k + m + 1 = k + (m + 1) by omega]; omega)
theorem BitLen_val {V : VE FD} {K : Mem → SV → Prop} (w0 : isW (V.it 0)) (w1 : isW (V.it 1)) (w2 : isW (V.it 2)) (w3 : isW (V.it 3)) (hp : BitLenT.post V K) :
    ∃ i : Nat, V.it i = (blen (val4I (V.it 0) (V.it 1) (V.it 2) (V.it 3)).toNat : Int) ∧ K [(false, cl 0)] (.a (.c (.iv .i64 i))) := by
  have sm : ∀ {n : Nat} {x : Int}, isW x → V.it n = (blen x.toNat : Int) → 0 ≤ V.it n ∧ V.it n ≤ 64 := by
    intro n x hx h
    have : blen x.toNat ≤ 64 := blen_le (by unfold isW at hx; simp only [Int.reducePow, Nat.reducePow] at *; omega)
    omega
  have wr : ∀ {a x : Int}, a = IntKind.wrap .i64 x → 0 ≤ x → x ≤ 256 → a = x := fun h h1 h2 => by
    rw [h, wrap_i64_eq]; simp only [Int.reducePow]; omega
  unfold isW at w0 w1 w2 w3
  obtain ⟨x0, e0⟩ : ∃ n : Nat, V.it 0 = n := ⟨(V.it 0).toNat, by omega⟩
  obtain ⟨x1, e1⟩ : ∃ n : Nat, V.it 1 = n := ⟨(V.it 1).toNat, by omega⟩
  obtain ⟨x2, e2⟩ : ∃ n : Nat, V.it 2 = n := ⟨(V.it 2).toNat, by omega⟩
  obtain ⟨x3, e3⟩ : ∃ n : Nat, V.it 3 = n := ⟨(V.it 3).toNat, by omega⟩
  have hv : (val4I (V.it 0) (V.it 1) (V.it 2) (V.it 3)).toNat = x0 + 2 ^ 64 * x1 + 2 ^ 128 * x2 + 2 ^ 192 * x3 := by
    rw [e0, e1, e2, e3]; unfold val4I; simp only [Int.reducePow, Nat.reducePow]; omega
  rw [hv]
  rw [e0] at w0; rw [e1] at w1; rw [e2] at w2; rw [e3] at w3
  simp only [Int.reducePow] at w0 w1 w2 w3
  rcases hp with ⟨ht, g, h, hk⟩ | ⟨ht, hp⟩
  · have ht := cmp_ne_t ht
    simp only [IE.den_var, IE.den_lit] at ht
    have g : [V.it (4 + 0)] = [(blen (V.it 3).toNat : Int)] := g.2
    have g : V.it 4 = (blen (V.it 3).toNat : Int) := by simpa using g
    have hs := sm (x := V.it 3) ⟨by omega, by rw [e3]; simp only [Int.reducePow]; omega⟩ g
    have h : V.it 5 = IntKind.wrap .i64 (192 + V.it 4) := h
    have h := wr h (by omega) (by omega)
    refine ⟨5, ?_, hk⟩
    rw [h, g, e3, show x0 + 2 ^ 64 * x1 + 2 ^ 128 * x2 + 2 ^ 192 * x3 = (x0 + 2 ^ 64 * x1 + 2 ^ 128 * x2) + 2 ^ 192 * x3 from rfl, blen_shift (by simp only [Nat.reducePow]; omega) (by omega)]
    simp
  · have ht := cmp_ne_f ht
    simp only [IE.den_var, IE.den_lit] at ht
    have z3 : x3 = 0 := by omega
    subst z3
    rcases hp with ⟨ht, g, h, hk⟩ | ⟨ht, hp⟩
    · have ht := cmp_ne_t ht
      simp only [IE.den_var, IE.den_lit] at ht
      have g : [V.it (4 + 0)] = [(blen (V.it 2).toNat : Int)] := g.2
      have g : V.it 4 = (blen (V.it 2).toNat : Int) := by simpa using g
      have hs := sm (x := V.it 2) ⟨by omega, by rw [e2]; simp only [Int.reducePow]; omega⟩ g
      have h : V.it 5 = IntKind.wrap .i64 (128 + V.it 4) := h
      have h := wr h (by omega) (by omega)
      refine ⟨5, ?_, hk⟩
      rw [h, g, e2, show x0 + 2 ^ 64 * x1 + 2 ^ 128 * x2 + 2 ^ 192 * 0 = (x0 + 2 ^ 64 * x1) + 2 ^ 128 * x2 by omega, blen_shift (by simp only [Nat.reducePow]; omega) (by omega)]
      simp
    · have ht := cmp_ne_f ht
      simp only [IE.den_var, IE.den_lit] at ht
      have z2 : x2 = 0 := by omega
      subst z2
      rcases hp with ⟨ht, g, h, hk⟩ | ⟨ht, g, hk⟩
      · have ht := cmp_ne_t ht
        simp only [IE.den_var, IE.den_lit] at ht
        have g : [V.it (4 + 0)] = [(blen (V.it 1).toNat : Int)] := g.2
        have g : V.it 4 = (blen (V.it 1).toNat : Int) := by simpa using g
        have hs := sm (x := V.it 1) ⟨by omega, by rw [e1]; simp only [Int.reducePow]; omega⟩ g
        have h : V.it 5 = IntKind.wrap .i64 (64 + V.it 4) := h
        have h := wr h (by omega) (by omega)
        refine ⟨5, ?_, hk⟩
        rw [h, g, e1, show x0 + 2 ^ 64 * x1 + 2 ^ 128 * 0 + 2 ^ 192 * 0 = x0 + 2 ^ 64 * x1 by omega, blen_shift (by simp only [Nat.reducePow]; omega) (by omega)]
        simp
      · have ht := cmp_ne_f ht
        simp only [IE.den_var, IE.den_lit] at ht
        have z1 : x1 = 0 := by omega
        subst z1
        have g : [V.it (4 + 0)] = [(blen (V.it 0).toNat : Int)] := g.2
        have g : V.it 4 = (blen (V.it 0).toNat : Int) := by simpa using g
        refine ⟨4, ?_, hk⟩
        rw [g, e0]
        simp
/-- the region of four words that is read -/
theorem repR {w : World} {b o : Nat} {V : VE FD} {ns : List Int} {c : List SC} (h : LIs V [(b, o)] c (ns.map (Value.int .u64))) (hc : HasC w b o (ns.map (Value.int .u64))) : Rep (fun _ _ => False) w V [(b, o)] ⟨[(false, c)], 0, 0, [], []⟩ w := by
  have h1 := (rep0 (fun _ _ => False) w V 0 [])
  have h2 := Rep.more1 (B := []) (mem := []) (h1.other rfl) (b := b) (o := o) (c := c) h hc (fun r m cs b' o' hm => by simp at hm)
  exact h2.other rfl
theorem bitlen_leaf {P : Program} {call : CallF} (hcall : CallOK P FD call) {f : Nat} (hchk : BitLenT.chk (fun ds => call f [pS 0] ⟨[(false, cl 0)], 0, 4, [], ds⟩) [] []) : PrimOK P FD f (.rd 10 4 [] [.i64]) := by
  intro w b o ns ms hn hm hc hd
  match ns, ms, hn, hm with
  | [x0, x1, x2, x3], [], _, _ =>
    obtain ⟨p0, p1, p2, p3⟩ := hd
    refine ⟨rfl, ?_⟩
    obtain ⟨V', ha, hp⟩ := PT.run hcall _ hchk (ks := [1, 1, 1, 1]) (by kernel_rfl) rfl rfl (VL x0 x1 x2 x3 0 0 0 0 0 0) ⟨p3, p2, p1, p0, trivial⟩ ((repR (V := VL x0 x1 x2 x3 0 0 0 0 0 0) (ns := [x0, x1, x2, x3]) (c := cl 0) ⟨rfl, rfl, rfl, rfl, trivial⟩ hc).other rfl) (us := [pt b o]) ⟨⟨b, o, rfl, rfl⟩, trivial⟩
    have e0 : V'.it 0 = x0 := ha.2 0 (by omega)
    have e1 : V'.it 1 = x1 := ha.2 1 (by omega)
    have e2 : V'.it 2 = x2 := ha.2 2 (by omega)
    have e3 : V'.it 3 = x3 := ha.2 3 (by omega)
    obtain ⟨i, hi, hk⟩ := BitLen_val (by rw [e0]; exact p0) (by rw [e1]; exact p1) (by rw [e2]; exact p2) (by rw [e3]; exact p3) hp
    rw [e0, e1, e2, e3] at hi
    refine hk.mono ?_
    rintro e w' ⟨u, X, rfl, hr, hu⟩
    have hu : u = .int .i64 (V'.it i) := hu
    refine ⟨?_, hr.keeps⟩
    rw [hu, hi]; rfl
/-! the approximation of a number by a word -/
def enumT (v : Nat) (t0 t1 t2 t3 : PT) : PT := .test (.cmp .eql (.var v) (.lit 0) true) t0 (.test (.cmp .eql (.var v) (.lit 1) true) t1 (.test (.cmp .eql (.var v) (.lit 2) true) t2 (.test (.cmp .eql (.var v) (.lit 3) true) t3 .stop)))
def RA (j : Nat) : PT := .row (.ibin 18 .and .u64 (.lit 0) (.var j)) (.row (.ibin 19 .shr .u64 (.var 18) (.lit 33)) (.row (.ibin 20 .or .u64 (.var 5) (.var 19)) (.row (.ibin 21 .or .u64 (.var 20) (.var 16)) (dn4 22 (.a (.c (.iv .u64 21)))))))
def SgA (i : Nat) : PT := .row (.ibin 14 .and .u64 (.var i) (.var 13)) (.row (.ibin 15 .sub .i64 (.lit 64) (.var 9)) (.test (.cmp .geq (.var 15) (.lit 0) true) (.row (.ibin 16 .shl .u64 (.var 14) (.var 15)) (.row (.ibin 17 .sub .i64 (.var 7) (.lit 1)) (enumT 17 (RA 0) (RA 1) (RA 2) (RA 3)))) .stop))
def RB (j : Nat) : PT := .row (.ibin 22 .and .u64 (.var 20) (.var j)) (.test (.cmp .geq (.var 9) (.lit 0) true) (.row (.ibin 23 .shr .u64 (.var 22) (.var 9)) (.row (.ibin 24 .or .u64 (.var 5) (.var 23)) (.row (.ibin 25 .or .u64 (.var 24) (.var 16)) (dn4 26 (.a (.c (.iv .u64 25))))))) .stop)
def SgB (i : Nat) : PT := .row (.ibin 14 .and .u64 (.var i) (.var 13)) (.row (.ibin 15 .sub .i64 (.lit 64) (.var 9)) (.test (.cmp .geq (.var 15) (.lit 0) true) (.row (.ibin 16 .shl .u64 (.var 14) (.var 15)) (.row (.ibin 17 .add .i64 (.lit 31) (.var 9)) (.test (.cmp .geq (.var 17) (.lit 0) true)
  (.row (.ibin 18 .shl .u64 (.lit 1) (.var 17)) (.row (.ibin 19 .sub .u64 (.var 18) (.lit 1)) (.row (.ibin 20 .xor .u64 (.lit 18446744073709551615) (.var 19)) (.row (.ibin 21 .sub .i64 (.var 7) (.lit 1)) (enumT 21 (RB 0) (RB 1) (RB 2) (RB 3)))))) .stop))) .stop))
def ApxT : PT := .test (.cmp .leq (.var 4) (.lit 64) true) (dn4 5 (.a (.c (.iv .u64 0))))
  (.row (.ibin 5 .and .u64 (.lit 2147483647) (.var 0)) (.row (.ibin 6 .sub .i64 (.var 4) (.lit 1)) (.row (.ibin 7 .quo .i64 (.var 6) (.lit 64)) (.row (.ibin 8 .mul .i64 (.var 7) (.lit 64)) (.row (.ibin 9 .sub .i64 (.var 4) (.var 8))
  (.test (.cmp .lss (.lit 33) (.var 9) true)
    (.row (.ibin 10 .sub .i64 (.var 9) (.lit 33)) (.test (.cmp .geq (.var 10) (.lit 0) true) (.row (.ibin 11 .shl .u64 (.lit 1) (.var 10)) (.row (.ibin 12 .sub .u64 (.var 11) (.lit 1)) (.row (.ibin 13 .xor .u64 (.lit 18446744073709551615) (.var 12)) (enumT 7 (SgA 0) (SgA 1) (SgA 2) (SgA 3))))) .stop))
    (.row (.ibin 10 .sub .i64 (.var 9) (.var 9)) (.test (.cmp .geq (.var 10) (.lit 0) true) (.row (.ibin 11 .shl .u64 (.lit 1) (.var 10)) (.row (.ibin 12 .sub .u64 (.var 11) (.lit 1)) (.row (.ibin 13 .xor .u64 (.lit 18446744073709551615) (.var 12)) (enumT 7 (SgB 0) (SgB 1) (SgB 2) (SgB 3))))) .stop))))))))
theorem enumT_post {V : VE FD} {K : Mem → SV → Prop} {v : Nat} {t0 t1 t2 t3 : PT} (h : (enumT v t0 t1 t2 t3).post V K) {k : Nat} (hk : V.it v = k) (hk4 : k < 4) : (match k with | 0 => t0 | 1 => t1 | 2 => t2 | _ => t3).post V K := by
  rcases h with ⟨h, hp⟩ | ⟨h, h2⟩
  · have h := cmp_eq_t h
    simp only [IE.den_var, IE.den_lit] at h
    have : k = 0 := by omega
    subst this; exact hp
  · have h := cmp_eq_f h
    simp only [IE.den_var, IE.den_lit] at h
    rcases h2 with ⟨g, hp⟩ | ⟨g, h3⟩
    · have g := cmp_eq_t g
      simp only [IE.den_var, IE.den_lit] at g
      have : k = 1 := by omega
      subst this; exact hp
    · have g := cmp_eq_f g
      simp only [IE.den_var, IE.den_lit] at g
      rcases h3 with ⟨g2, hp⟩ | ⟨g2, h4⟩
      · have g2 := cmp_eq_t g2
        simp only [IE.den_var, IE.den_lit] at g2
        have : k = 2 := by omega
        subst this; exact hp
      · have g2 := cmp_eq_f g2
        simp only [IE.den_var, IE.den_lit] at g2
        rcases h4 with ⟨g3, hp⟩ | ⟨g3, _⟩
        · have g3 := cmp_eq_t g3
          simp only [IE.den_var, IE.den_lit] at g3
          have : k = 3 := by omega
          subst this; exact hp
        · have g3 := cmp_eq_f g3
          simp only [IE.den_var, IE.den_lit] at g3
          omega
theorem cmp_ge_t {V : VE FD} {a b : IE} {z : Bool} (h : (flipT true (.cmp .geq a b z)).holds V) : b.den V ≤ a.den V := of_decide_eq_true h
theorem cmp_ge_f {V : VE FD} {a b : IE} {z : Bool} (h : (flipT false (.cmp .geq a b z)).holds V) : a.den V < b.den V := by
  have := of_decide_eq_false h
  omega
theorem cmp_le_t {V : VE FD} {a b : IE} {z : Bool} (h : (flipT true (.cmp .leq a b z)).holds V) : a.den V ≤ b.den V := of_decide_eq_true h
theorem cmp_le_f {V : VE FD} {a b : IE} {z : Bool} (h : (flipT false (.cmp .leq a b z)).holds V) : b.den V < a.den V := by
  have := of_decide_eq_false h
  omega
theorem andNat {x y : Nat} (hx : x < 2 ^ 64) (hy : y < 2 ^ 64) : ibinF .and .u64 (x : Int) (y : Int) = ((x &&& y : Nat) : Int) := by
  show (((BitVec.ofInt 64 (x : Int) &&& BitVec.ofInt 64 (y : Int)).toNat : Int)) % 2 ^ 64 = _
  have e1 : ((x : Int) % ((2 ^ 64 : Nat) : Int)).toNat = x := by omega
  have e2 : ((y : Int) % ((2 ^ 64 : Nat) : Int)).toNat = y := by omega
  rw [BitVec.toNat_and, BitVec.toNat_ofInt, BitVec.toNat_ofInt, e1, e2]
  have : x &&& y ≤ x := Nat.and_le_left
  omega
/-- the word without its k lowest digits -/
theorem mask_high {m x l t : Int} {k : Nat} (hk : k ≤ 64) (h11 : t = ibinF .shl .u64 1 (k : Int)) (h12 : l = ibinF .sub .u64 t 1) (h13 : m = ibinF .xor .u64 18446744073709551615 l) (hx : isW x) : ibinF .and .u64 x m = x / 2 ^ k * 2 ^ k ∧ ibinF .and .u64 m x = x / 2 ^ k * 2 ^ k := by
  rw [shlW 1 k hk, Int.one_mul] at h11
  obtain ⟨a, rfl⟩ : ∃ a : Nat, x = a := ⟨x.toNat, by unfold isW at hx; omega⟩
  have ha : a < 2 ^ 64 := by unfold isW at hx; omega
  have hl : l = ((2 ^ k - 1 : Nat) : Int) := by
    rw [h12]
    show (t - 1) % 2 ^ 64 = _
    rw [h11]
    have hp : (0 : Nat) < 2 ^ k := Nat.pow_pos (by decide)
    have e : ((2 : Int) ^ k) = ((2 ^ k : Nat) : Int) := by simp
    rw [e]
    rcases Nat.lt_or_ge k 64 with h | h
    · have : 2 ^ k < 2 ^ 64 := Nat.pow_lt_pow_right (by decide) h
      omega
    · have : k = 64 := by omega
      subst this
      decide
  have hlk : 2 ^ k ≤ 2 ^ 64 := Nat.pow_le_pow_right (by decide) hk
  have hp : (0 : Nat) < 2 ^ k := Nat.pow_pos (by decide)
  have hm : m = ((2 ^ 64 - 2 ^ k : Nat) : Int) := by
    rw [h13, hl]
    show (((BitVec.ofInt 64 18446744073709551615 ^^^ BitVec.ofInt 64 ((2 ^ k - 1 : Nat) : Int)).toNat : Int)) % 2 ^ 64 = _
    have e1 : BitVec.ofInt 64 18446744073709551615 = BitVec.allOnes 64 := by decide
    rw [e1, BitVec.allOnes_xor, BitVec.toNat_not, BitVec.toNat_ofInt]
    have e2 : (((2 ^ k - 1 : Nat) : Int) % ((2 ^ 64 : Nat) : Int)).toNat = 2 ^ k - 1 := by omega
    rw [e2]
    omega
  have hand : a &&& (2 ^ 64 - 2 ^ k) = a / 2 ^ k * 2 ^ k := by
    apply Nat.eq_of_testBit_eq
    intro i
    rw [Nat.testBit_and, ← Nat.shiftLeft_eq, Nat.testBit_shiftLeft]
    have h1 : (2 ^ 64 - 2 ^ k).testBit i = (decide (i < 64) && decide (k ≤ i)) := by
      have e : 2 ^ 64 - 2 ^ k = (2 ^ (64 - k) - 1) <<< k := by
        rw [Nat.shiftLeft_eq, Nat.sub_mul, Nat.one_mul, ← Nat.pow_add, show 64 - k + k = 64 by omega]
      rw [e, Nat.testBit_shiftLeft, Nat.testBit_two_pow_sub_one]
      by_cases hki : k ≤ i
      · by_cases hi : i < 64
        · simp [hki, hi]; omega
        · simp [hki, hi]; omega
      · simp [hki]
    rw [h1]
    by_cases hki : k ≤ i
    · rw [Nat.testBit_div_two_pow, Nat.sub_add_cancel hki]
      by_cases hi : i < 64
      · simp [hki, hi]
      · have : a.testBit i = false := Nat.testBit_lt_two_pow (Nat.lt_of_lt_of_le ha (Nat.pow_le_pow_right (by decide) (by omega)))
        simp [hki, this]
    · simp [hki]
  have hm2 : 2 ^ 64 - 2 ^ k < 2 ^ 64 := by omega
  have e3 : ((a / 2 ^ k * 2 ^ k : Nat) : Int) = (a : Int) / 2 ^ k * 2 ^ k := by simp
  constructor
  · rw [hm, andNat ha hm2, hand, e3]
  · rw [hm, andNat hm2 ha, Nat.and_comm, hand, e3]
theorem and31 {x : Int} (hx : isW x) : ibinF .and .u64 2147483647 x = x % 2 ^ 31 := by
  obtain ⟨a, rfl⟩ : ∃ a : Nat, x = a := ⟨x.toNat, by unfold isW at hx; omega⟩
  have ha : a < 2 ^ 64 := by unfold isW at hx; omega
  have := andNat (x := 2147483647) (y := a) (by decide) ha
  have e : (2147483647 &&& a : Nat) = a % 2 ^ 31 := by rw [Nat.and_comm]; exact Nat.and_two_pow_sub_one_eq_mod a 31
  rw [e] at this
  rw [show (2147483647 : Int) = ((2147483647 : Nat) : Int) from rfl, this]
  simp
theorem and0 (x : Int) : ibinF .and .u64 0 x = 0 := by
  show (((BitVec.ofInt 64 0 &&& BitVec.ofInt 64 x).toNat : Int)) % 2 ^ 64 = _
  have : BitVec.ofInt 64 0 = 0#64 := by decide
  rw [this, BitVec.zero_and]; rfl
theorem mod_div {L H s t u : Nat} (hL : L < 2 ^ s) (hut : u ≤ t) : (L + 2 ^ s * H) % 2 ^ (s + t) / 2 ^ (s + u) = H % 2 ^ t / 2 ^ u := by
  have hp : 0 < 2 ^ s := Nat.pow_pos (by decide)
  rw [Nat.pow_add, Nat.pow_add, Nat.mod_mul, Nat.add_mul_mod_self_left, Nat.mod_eq_of_lt hL, Nat.add_mul_div_left _ _ hp, Nat.div_eq_of_lt hL, Nat.zero_add, ← Nat.div_div_eq_div_mul, Nat.add_mul_div_left _ _ hp, Nat.div_eq_of_lt hL, Nat.zero_add]
theorem mod_div' (x : Nat) {a u : Nat} (h : u ≤ a) : x % 2 ^ a / 2 ^ u = x / 2 ^ u % 2 ^ (a - u) := by
  have := Nat.mod_mul_right_div_self x (2 ^ u) (2 ^ (a - u))
  rw [← Nat.pow_add, show u + (a - u) = a by omega] at this
  exact this
/-- what the approximation is, over natural numbers: the word in which the top digit stands, the word below -/
theorem apx_hi {v n i a L x R : Nat} (hn : n = 64 * i + a) (ha : 33 < a) (ha' : a ≤ 64) (hv : v = L + 2 ^ (64 * i) * (x + 2 ^ 64 * R)) (hL : L < 2 ^ (64 * i)) (hx : x < 2 ^ 64) : v % 2 ^ n / 2 ^ (n - 33) = x / 2 ^ (a - 33) % 2 ^ 33 := by
  rw [hv, hn, show 64 * i + a - 33 = 64 * i + (a - 33) by omega, mod_div hL (by omega)]
  have h1 : (x + 2 ^ 64 * R) % 2 ^ a = x % 2 ^ a := by
    rw [show 64 = a + (64 - a) by omega, Nat.pow_add, Nat.mul_assoc, Nat.add_mul_mod_self_left]
  rw [h1, mod_div' x (by omega), show a - (a - 33) = 33 by omega]
theorem apx_lo {v n i a L y x R : Nat} (hn : n = 64 * (i + 1) + a) (ha : a ≤ 33) (hv : v = L + 2 ^ (64 * i) * (y + 2 ^ 64 * (x + 2 ^ 64 * R))) (hL : L < 2 ^ (64 * i)) (hy : y < 2 ^ 64) : v % 2 ^ n / 2 ^ (n - 33) = y / 2 ^ (31 + a) + 2 ^ (33 - a) * (x % 2 ^ a) := by
  rw [hv, hn, show 64 * (i + 1) + a = 64 * i + (64 + a) by omega, show 64 * i + (64 + a) - 33 = 64 * i + (31 + a) by omega, mod_div hL (by omega)]
  have h1 : (y + 2 ^ 64 * (x + 2 ^ 64 * R)) % 2 ^ (64 + a) = y + 2 ^ 64 * (x % 2 ^ a) := by
    rw [Nat.pow_add, Nat.mod_mul, Nat.add_mul_mod_self_left, Nat.mod_eq_of_lt hy, Nat.add_mul_div_left _ _ (by decide), Nat.div_eq_of_lt hy, Nat.zero_add]
    congr 2
    rw [show 64 = a + (64 - a) by omega, Nat.pow_add, Nat.mul_assoc, Nat.add_mul_mod_self_left]
  rw [h1, show 64 = (31 + a) + (33 - a) by omega, Nat.pow_add, Nat.mul_assoc, Nat.add_mul_div_left _ _ (Nat.pow_pos (by decide))]
theorem natPow (k : Nat) : ((2 ^ k : Nat) : Int) = (2 : Int) ^ k := by simp
/-- the high part, shifted up -/
theorem shl_high {x : Nat} {a : Nat} (ha : a ≤ 64) (h33 : 33 < a) : ((x / 2 ^ (a - 33) * 2 ^ (a - 33) : Nat) : Int) * 2 ^ (64 - a) % 2 ^ 64 = ((x / 2 ^ (a - 33) % 2 ^ 33 * 2 ^ 31 : Nat) : Int) := by
  have e : ((x / 2 ^ (a - 33) * 2 ^ (a - 33) : Nat) : Int) * 2 ^ (64 - a) % 2 ^ 64 = ((x / 2 ^ (a - 33) * 2 ^ (a - 33) * 2 ^ (64 - a) % 2 ^ 64 : Nat) : Int) := by
    rw [← natPow, ← natPow 64]; norm_cast
  rw [e, Nat.mul_assoc, ← Nat.pow_add, show a - 33 + (64 - a) = 31 by omega, show 64 = 33 + 31 by omega, Nat.pow_add, Nat.mul_mod_mul_right]
theorem shl_low {x : Nat} {a : Nat} (ha : a ≤ 33) : (x : Int) * 2 ^ (64 - a) % 2 ^ 64 = ((x % 2 ^ a * 2 ^ (64 - a) : Nat) : Int) := by
  have e : (x : Int) * 2 ^ (64 - a) % 2 ^ 64 = ((x * 2 ^ (64 - a) % 2 ^ 64 : Nat) : Int) := by
    rw [← natPow, ← natPow 64]; norm_cast
  rw [e, show 64 = a + (64 - a) by omega, Nat.pow_add, show a + (64 - a) - a = 64 - a by omega, Nat.mul_mod_mul_right]
/-! the approximation: what its runs come to -/
theorem wrap_sm {a x : Int} (h : a = IntKind.wrap .i64 x) (h1 : -1000 ≤ x) (h2 : x ≤ 1000) : a = x := by
  rw [h, wrap_i64_eq]; simp only [Int.reducePow]; omega
theorem RA_val {V : VE FD} {K : Mem → SV → Prop} {j : Nat} {q : Int} (h5 : V.it 5 = V.it 0 % 2 ^ 31) (h16 : V.it 16 = 2 ^ 31 * q) (w16 : isW (V.it 16)) (hp : (RA j).post V K) :
    ∃ i : Nat, V.it i = V.it 0 % 2 ^ 31 + 2 ^ 31 * q ∧ K [(false, cl 0)] (.a (.c (.iv .u64 i))) := by
  obtain ⟨h18, h19, h20, h21, hk⟩ := hp
  have h18 : V.it 18 = ibinF .and .u64 0 (V.it j) := h18
  rw [and0] at h18
  have h19 : V.it 19 = ibinF .shr .u64 (V.it 18) 33 := h19
  rw [h18, show (33 : Int) = ((33 : Nat) : Int) from rfl, shrW ⟨by omega, by decide⟩ 33 (by omega)] at h19
  have h19 : V.it 19 = 0 := by rw [h19]; decide
  have h20 : V.it 20 = ibinF .or .u64 (V.it 5) (V.it 19) := h20
  have b5 : 0 ≤ V.it 5 ∧ V.it 5 < 2 ^ 31 := by rw [h5]; simp only [Int.reducePow]; omega
  rw [h19, orW (k := 31) (by omega) b5.1 b5.2 ⟨by omega, by decide⟩ ⟨0, by simp⟩] at h20
  have h21 : V.it 21 = ibinF .or .u64 (V.it 20) (V.it 16) := h21
  rw [h20, Int.add_zero, orW (k := 31) (by omega) b5.1 b5.2 w16 ⟨q, h16⟩, h16, h5] at h21
  exact ⟨21, h21, hk⟩
theorem RB_val {V : VE FD} {K : Mem → SV → Prop} {j a : Nat} {q q' : Int} (h5 : V.it 5 = V.it 0 % 2 ^ 31) (h16 : V.it 16 = 2 ^ 31 * q) (w16 : isW (V.it 16)) (h9 : V.it 9 = a) (ha : a ≤ 33) (h16' : V.it 16 = 2 ^ (64 - a) * q')
    {t l : Int} (e11 : t = ibinF .shl .u64 1 ((31 + a : Nat) : Int)) (e12 : l = ibinF .sub .u64 t 1) (h20 : V.it 20 = ibinF .xor .u64 18446744073709551615 l) (hj : isW (V.it j)) (hp : (RB j).post V K) :
    ∃ i : Nat, V.it i = V.it 0 % 2 ^ 31 + (2 ^ 31 * (V.it j / 2 ^ (31 + a)) + 2 ^ 31 * q) ∧ K [(false, cl 0)] (.a (.c (.iv .u64 i))) := by
  obtain ⟨h22, hp⟩ := hp
  have h22 : V.it 22 = ibinF .and .u64 (V.it 20) (V.it j) := h22
  rw [(mask_high (k := 31 + a) (by omega) e11 e12 h20 hj).2] at h22
  rcases hp with ⟨_, h23, h24, h25, hk⟩ | ⟨ht, _⟩
  case inr =>
    have := cmp_ge_f ht
    simp only [IE.den_var, IE.den_lit] at this
    omega
  have hjn : 0 ≤ V.it j := hj.1
  have hjl : V.it j < 2 ^ 64 := hj.2
  obtain ⟨y, hy⟩ : ∃ y : Nat, V.it j = y := ⟨(V.it j).toNat, by omega⟩
  have hyl : y < 2 ^ 64 := by simp only [Int.reducePow, Nat.reducePow] at *; omega
  have e22 : V.it 22 = ((y / 2 ^ (31 + a) * 2 ^ (31 + a) : Nat) : Int) := by rw [h22, hy]; simp
  have l22 : y / 2 ^ (31 + a) * 2 ^ (31 + a) ≤ y := Nat.div_mul_le_self _ _
  have w22 : isW (V.it 22) := by rw [e22]; exact ⟨by omega, by simp only [Int.reducePow, Nat.reducePow] at *; omega⟩
  have h23 : V.it 23 = ibinF .shr .u64 (V.it 22) (V.it 9) := h23
  rw [h9, shrW w22 a (by omega), e22] at h23
  have e23 : V.it 23 = ((2 ^ 31 * (y / 2 ^ (31 + a)) : Nat) : Int) := by
    rw [h23, ← natPow, ← Int.natCast_ediv, Nat.pow_add, Nat.mul_comm (2 ^ 31) (2 ^ a), ← Nat.mul_assoc, Nat.mul_right_comm, Nat.mul_div_cancel _ (Nat.pow_pos (by decide)), Nat.mul_comm]
  have l23 : 2 ^ 31 * (y / 2 ^ (31 + a)) < 2 ^ (64 - a) := by
    have h1 : y / 2 ^ (31 + a) < 2 ^ (33 - a) := by
      rw [Nat.div_lt_iff_lt_mul (Nat.pow_pos (by decide)), ← Nat.pow_add, show 33 - a + (31 + a) = 64 by omega]; exact hyl
    have h2 := Nat.mul_lt_mul_of_pos_left h1 (Nat.pow_pos (by decide) : 0 < 2 ^ 31)
    rw [← Nat.pow_add, show 31 + (33 - a) = 64 - a by omega] at h2
    exact h2
  have l24 : (2 : Nat) ^ (64 - a) ≤ 2 ^ 64 := Nat.pow_le_pow_right (by decide) (by omega)
  have w23 : isW (V.it 23) := by rw [e23]; exact ⟨by omega, by simp only [Int.reducePow, Nat.reducePow] at *; omega⟩
  have b5 : 0 ≤ V.it 5 ∧ V.it 5 < 2 ^ 31 := by rw [h5]; simp only [Int.reducePow]; omega
  have h24 : V.it 24 = ibinF .or .u64 (V.it 5) (V.it 23) := h24
  rw [orW (k := 31) (by omega) b5.1 b5.2 w23 ⟨((y / 2 ^ (31 + a) : Nat) : Int), by rw [e23]; simp⟩] at h24
  have h25 : V.it 25 = ibinF .or .u64 (V.it 24) (V.it 16) := h25
  have b5n : V.it 5 = ((V.it 0 % 2 ^ 31).toNat : Int) := by simp only [Int.reducePow] at *; omega
  have hb : (V.it 5).toNat + 2 ^ 31 * (y / 2 ^ (31 + a)) < 2 ^ (64 - a) := by
    obtain ⟨c, hc⟩ : ∃ c, 64 - a = 31 + c := ⟨33 - a, by omega⟩
    rw [hc, Nat.pow_add 2 31 c] at l23 ⊢
    have := Nat.lt_of_mul_lt_mul_left l23
    have h5' : (V.it 5).toNat < 2 ^ 31 := by simp only [Int.reducePow, Nat.reducePow] at *; omega
    have := Nat.mul_le_mul_left (2 ^ 31) (Nat.succ_le_of_lt this)
    rw [Nat.mul_succ] at this
    omega
  have e24 : V.it 24 = (((V.it 5).toNat + 2 ^ 31 * (y / 2 ^ (31 + a)) : Nat) : Int) := by
    have h0 := b5.1
    rw [h24, e23]; omega
  rw [orW (k := 64 - a) (by omega) (by rw [e24]; omega) (by rw [e24, ← natPow]; exact Int.ofNat_lt.2 hb) w16 ⟨q', h16'⟩, h24, e23, h16, h5] at h25
  refine ⟨25, ?_, hk⟩
  rw [h25, hy]
  rw [Int.natCast_mul, Int.natCast_ediv, natPow, natPow]
  omega
theorem SgA_val {V : VE FD} {K : Mem → SV → Prop} {i a : Nat} (h5 : V.it 5 = V.it 0 % 2 ^ 31) (h7 : V.it 7 = i) (hi : 1 ≤ i ∧ i < 4) (h9 : V.it 9 = a) (ha : 33 < a) (ha' : a ≤ 64) {t l : Int} (e11 : t = ibinF .shl .u64 1 ((a - 33 : Nat) : Int)) (e12 : l = ibinF .sub .u64 t 1) (h13 : V.it 13 = ibinF .xor .u64 18446744073709551615 l)
    {x : Nat} (hx : V.it i = x) (hxl : x < 2 ^ 64) (hp : (SgA i).post V K) :
    ∃ k : Nat, V.it k = V.it 0 % 2 ^ 31 + 2 ^ 31 * ((x / 2 ^ (a - 33) % 2 ^ 33 : Nat) : Int) ∧ K [(false, cl 0)] (.a (.c (.iv .u64 k))) := by
  obtain ⟨h14, h15, hp⟩ := hp
  have h14 : V.it 14 = ibinF .and .u64 (V.it i) (V.it 13) := h14
  rw [(mask_high (k := a - 33) (by omega) e11 e12 h13 (by rw [hx]; exact ⟨by omega, by exact_mod_cast hxl⟩)).1, hx] at h14
  have h15 : V.it 15 = IntKind.wrap .i64 (64 - V.it 9) := h15
  have h15 := wrap_sm h15 (by omega) (by omega)
  rcases hp with ⟨_, h16, h17, hp⟩ | ⟨ht, _⟩
  case inr =>
    have := cmp_ge_f ht
    simp only [IE.den_var, IE.den_lit] at this
    omega
  have h16 : V.it 16 = ibinF .shl .u64 (V.it 14) (V.it 15) := h16
  rw [show V.it 15 = ((64 - a : Nat) : Int) by omega, shlW _ (64 - a) (by omega), h14] at h16
  have e := shl_high (x := x) ha' ha
  rw [Int.natCast_mul, Int.natCast_ediv, natPow] at e
  rw [e] at h16
  have h17 : V.it 17 = IntKind.wrap .i64 (V.it 7 - 1) := h17
  have h17 := wrap_sm h17 (by omega) (by omega)
  have hp := enumT_post hp (k := i - 1) (by omega) (by omega)
  have w16 : isW (V.it 16) := by
    rw [h16]
    have : x / 2 ^ (a - 33) % 2 ^ 33 < 2 ^ 33 := Nat.mod_lt _ (by decide)
    exact ⟨by omega, by simp only [Int.reducePow, Nat.reducePow] at *; omega⟩
  have h16' : V.it 16 = 2 ^ 31 * ((x / 2 ^ (a - 33) % 2 ^ 33 : Nat) : Int) := by rw [h16, Int.natCast_mul, Int.mul_comm]; rfl
  obtain ⟨hi1, hi4⟩ := hi
  match i, hi1, hi4, hp with
  | 1, _, _, hp => exact RA_val h5 h16' w16 hp
  | 2, _, _, hp => exact RA_val h5 h16' w16 hp
  | 3, _, _, hp => exact RA_val h5 h16' w16 hp
theorem SgB_val {V : VE FD} {K : Mem → SV → Prop} {i a : Nat} (h5 : V.it 5 = V.it 0 % 2 ^ 31) (h7 : V.it 7 = i) (hi : 1 ≤ i ∧ i < 4) (h9 : V.it 9 = a) (ha : a ≤ 33) {t l : Int} (e11 : t = ibinF .shl .u64 1 ((0 : Nat) : Int)) (e12 : l = ibinF .sub .u64 t 1) (h13 : V.it 13 = ibinF .xor .u64 18446744073709551615 l)
    {x y : Nat} (hx : V.it i = x) (hxl : x < 2 ^ 64) (hy : V.it (i - 1) = y) (hyl : y < 2 ^ 64) (hp : (SgB i).post V K) :
    ∃ k : Nat, V.it k = V.it 0 % 2 ^ 31 + 2 ^ 31 * ((y / 2 ^ (31 + a) + 2 ^ (33 - a) * (x % 2 ^ a) : Nat) : Int) ∧ K [(false, cl 0)] (.a (.c (.iv .u64 k))) := by
  obtain ⟨h14, h15, hp⟩ := hp
  have h14 : V.it 14 = ibinF .and .u64 (V.it i) (V.it 13) := h14
  rw [(mask_high (k := 0) (by omega) e11 e12 h13 (by rw [hx]; exact ⟨by omega, by exact_mod_cast hxl⟩)).1, hx] at h14
  have h14 : V.it 14 = x := by rw [h14]; simp
  have h15 : V.it 15 = IntKind.wrap .i64 (64 - V.it 9) := h15
  have h15 := wrap_sm h15 (by omega) (by omega)
  rcases hp with ⟨_, h16, h17, hp⟩ | ⟨ht, _⟩
  case inr =>
    have := cmp_ge_f ht
    simp only [IE.den_var, IE.den_lit] at this
    omega
  have h16 : V.it 16 = ibinF .shl .u64 (V.it 14) (V.it 15) := h16
  rw [show V.it 15 = ((64 - a : Nat) : Int) by omega, shlW _ (64 - a) (by omega), h14, shl_low ha] at h16
  have h17 : V.it 17 = IntKind.wrap .i64 (31 + V.it 9) := h17
  have h17 := wrap_sm h17 (by omega) (by omega)
  rcases hp with ⟨_, h18, h19, h20, h21, hp⟩ | ⟨ht, _⟩
  case inr =>
    have := cmp_ge_f ht
    simp only [IE.den_var, IE.den_lit] at this
    omega
  have h18 : V.it 18 = ibinF .shl .u64 1 (V.it 17) := h18
  rw [show V.it 17 = ((31 + a : Nat) : Int) by omega] at h18
  have h19 : V.it 19 = ibinF .sub .u64 (V.it 18) 1 := h19
  have h20 : V.it 20 = ibinF .xor .u64 18446744073709551615 (V.it 19) := h20
  have h21 : V.it 21 = IntKind.wrap .i64 (V.it 7 - 1) := h21
  have h21 := wrap_sm h21 (by omega) (by omega)
  have hp := enumT_post hp (k := i - 1) (by omega) (by omega)
  have l16 : x % 2 ^ a * 2 ^ (64 - a) < 2 ^ 64 := by
    have h1 : x % 2 ^ a < 2 ^ a := Nat.mod_lt _ (Nat.pow_pos (by decide))
    have h2 := Nat.mul_lt_mul_of_pos_right h1 (Nat.pow_pos (by decide) : 0 < 2 ^ (64 - a))
    rw [← Nat.pow_add, show a + (64 - a) = 64 by omega] at h2
    exact h2
  have w16 : isW (V.it 16) := by
    rw [h16]
    exact ⟨by omega, by exact_mod_cast l16⟩
  have h16' : V.it 16 = 2 ^ 31 * ((2 ^ (33 - a) * (x % 2 ^ a) : Nat) : Int) := by
    rw [h16, show 64 - a = 31 + (33 - a) by omega, Nat.pow_add]
    rw [Nat.mul_comm, Nat.mul_assoc, Int.natCast_mul]; rfl
  have h16'' : V.it 16 = 2 ^ (64 - a) * ((x % 2 ^ a : Nat) : Int) := by rw [h16, Int.natCast_mul, natPow, Int.mul_comm]
  have fin : ∀ {j : Nat}, V.it j = y → (RB j).post V K → ∃ k : Nat, V.it k = V.it 0 % 2 ^ 31 + 2 ^ 31 * ((y / 2 ^ (31 + a) + 2 ^ (33 - a) * (x % 2 ^ a) : Nat) : Int) ∧ K [(false, cl 0)] (.a (.c (.iv .u64 k))) := by
    intro j hj hp
    obtain ⟨k, hk, hK⟩ := RB_val h5 h16' w16 h9 ha h16'' h18 h19 h20 (by rw [hj]; exact ⟨by omega, by exact_mod_cast hyl⟩) hp
    refine ⟨k, ?_, hK⟩
    rw [hk, hj, Int.natCast_add, Int.mul_add, Int.natCast_ediv, natPow]
  obtain ⟨hi1, hi4⟩ := hi
  match i, hi1, hi4, hp, hy with
  | 1, _, _, hp, hy => exact fin hy hp
  | 2, _, _, hp, hy => exact fin hy hp
  | 3, _, _, hp, hy => exact fin hy hp
theorem apx_dec {x0 x1 x2 x3 i : Nat} (hi : 1 ≤ i ∧ i < 4) : ∃ L R y x : Nat, (i = 1 → y = x0 ∧ x = x1) ∧ (i = 2 → y = x1 ∧ x = x2) ∧ (i = 3 → y = x2 ∧ x = x3) ∧ x0 + 2 ^ 64 * (x1 + 2 ^ 64 * (x2 + 2 ^ 64 * x3)) = L + 2 ^ (64 * (i - 1)) * (y + 2 ^ 64 * (x + 2 ^ 64 * R)) ∧ (x0 < 2 ^ 64 → x1 < 2 ^ 64 → L < 2 ^ (64 * (i - 1))) := by
  obtain rfl | rfl | rfl : i = 1 ∨ i = 2 ∨ i = 3 := by omega
  · exact ⟨0, x2 + 2 ^ 64 * x3, x0, x1, fun _ => ⟨rfl, rfl⟩, fun h => by omega, fun h => by omega, by simp, fun _ _ => by decide⟩
  · exact ⟨x0, x3, x1, x2, fun h => by omega, fun _ => ⟨rfl, rfl⟩, fun h => by omega, by simp, fun h _ => h⟩
  · exact ⟨x0 + 2 ^ 64 * x1, 0, x2, x3, fun h => by omega, fun h => by omega, fun _ => ⟨rfl, rfl⟩, by simp only [Nat.reducePow, Nat.reduceMul, Nat.reduceSub]; omega, fun h h' => by simp only [Nat.reducePow, Nat.reduceMul, Nat.reduceSub] at *; omega⟩
theorem apx_nat {v n : Nat} (hn : 64 < n) : apx (v : Int) (n : Int) = (v : Int) % 2 ^ 31 + 2 ^ 31 * ((v % 2 ^ n / 2 ^ (n - 33) : Nat) : Int) := by
  unfold apx
  rw [if_neg (by omega), Int.toNat_natCast, Int.natCast_ediv, Int.natCast_emod, natPow, natPow]
theorem Apx_val {V : VE FD} {K : Mem → SV → Prop} (w0 : isW (V.it 0)) (w1 : isW (V.it 1)) (w2 : isW (V.it 2)) (w3 : isW (V.it 3)) (hn : 0 ≤ V.it 4 ∧ V.it 4 ≤ 256) (hp : ApxT.post V K) :
    ∃ i : Nat, V.it i = apx (val4I (V.it 0) (V.it 1) (V.it 2) (V.it 3)) (V.it 4) ∧ K [(false, cl 0)] (.a (.c (.iv .u64 i))) := by
  obtain ⟨n, en⟩ : ∃ n : Nat, V.it 4 = n := ⟨(V.it 4).toNat, by omega⟩
  obtain ⟨x0, e0⟩ : ∃ n : Nat, V.it 0 = n := ⟨(V.it 0).toNat, by have := w0.1; omega⟩
  obtain ⟨x1, e1⟩ : ∃ n : Nat, V.it 1 = n := ⟨(V.it 1).toNat, by have := w1.1; omega⟩
  obtain ⟨x2, e2⟩ : ∃ n : Nat, V.it 2 = n := ⟨(V.it 2).toNat, by have := w2.1; omega⟩
  obtain ⟨x3, e3⟩ : ∃ n : Nat, V.it 3 = n := ⟨(V.it 3).toNat, by have := w3.1; omega⟩
  have l0 : x0 < 2 ^ 64 := by rw [e0] at w0; unfold isW at w0; simp only [Int.reducePow, Nat.reducePow] at *; omega
  have l1 : x1 < 2 ^ 64 := by rw [e1] at w1; unfold isW at w1; simp only [Int.reducePow, Nat.reducePow] at *; omega
  have l2 : x2 < 2 ^ 64 := by rw [e2] at w2; unfold isW at w2; simp only [Int.reducePow, Nat.reducePow] at *; omega
  have l3 : x3 < 2 ^ 64 := by rw [e3] at w3; unfold isW at w3; simp only [Int.reducePow, Nat.reducePow] at *; omega
  have hv : val4I (V.it 0) (V.it 1) (V.it 2) (V.it 3) = ((x0 + 2 ^ 64 * (x1 + 2 ^ 64 * (x2 + 2 ^ 64 * x3)) : Nat) : Int) := by
    rw [e0, e1, e2, e3]; unfold val4I; simp only [Int.reducePow, Nat.reducePow]; omega
  have hv31 : val4I (V.it 0) (V.it 1) (V.it 2) (V.it 3) % 2 ^ 31 = V.it 0 % 2 ^ 31 := by
    unfold val4I; simp only [Int.reducePow]; omega
  rcases hp with ⟨ht, hk⟩ | ⟨ht, h5, h6, h7, h8, h9, hp⟩
  · have ht := cmp_le_t ht
    simp only [IE.den_var, IE.den_lit] at ht
    refine ⟨0, ?_, hk⟩
    unfold apx
    rw [if_pos ht]
    have := w0.1; have := w0.2
    unfold val4I; simp only [Int.reducePow] at *; omega
  · have ht := cmp_le_f ht
    simp only [IE.den_var, IE.den_lit] at ht
    have h5 : V.it 5 = ibinF .and .u64 2147483647 (V.it 0) := h5
    rw [and31 w0] at h5
    have h6 : V.it 6 = IntKind.wrap .i64 (V.it 4 - 1) := h6
    have h6 := wrap_sm h6 (by omega) (by omega)
    have h7 : V.it 7 = IntKind.wrap .i64 ((V.it 6).tdiv 64) := h7
    rw [Int.tdiv_eq_ediv_of_nonneg (by omega)] at h7
    have h7 := wrap_sm h7 (by omega) (by omega)
    have h8 : V.it 8 = IntKind.wrap .i64 (V.it 7 * 64) := h8
    have h8 := wrap_sm h8 (by omega) (by omega)
    have h9 : V.it 9 = IntKind.wrap .i64 (V.it 4 - V.it 8) := h9
    have h9 := wrap_sm h9 (by omega) (by omega)
    obtain ⟨i, ei⟩ : ∃ i : Nat, V.it 7 = i := ⟨(V.it 7).toNat, by omega⟩
    obtain ⟨a, ea⟩ : ∃ a : Nat, V.it 9 = a := ⟨(V.it 9).toNat, by omega⟩
    have hi : 1 ≤ i ∧ i < 4 := by omega
    have hna : n = 64 * i + a := by omega
    have ha : 1 ≤ a ∧ a ≤ 64 := by omega
    have hi3 : i = 1 ∨ i = 2 ∨ i = 3 := by omega
    obtain ⟨L, R, y, x, y1, y2, y3, hvd, hL⟩ := apx_dec (x0 := x0) (x1 := x1) (x2 := x2) (x3 := x3) hi
    have hL := hL l0 l1
    have hyx : (V.it (i - 1) = y ∧ y < 2 ^ 64) ∧ V.it i = x ∧ x < 2 ^ 64 := by
      rcases hi3 with h | h | h
      · obtain ⟨r1, r2⟩ := y1 h
        rw [h, r1, r2]; exact ⟨⟨e0, l0⟩, e1, l1⟩
      · obtain ⟨r1, r2⟩ := y2 h
        rw [h, r1, r2]; exact ⟨⟨e1, l1⟩, e2, l2⟩
      · obtain ⟨r1, r2⟩ := y3 h
        rw [h, r1, r2]; exact ⟨⟨e2, l2⟩, e3, l3⟩
    obtain ⟨⟨hy, hyl⟩, hx, hxl⟩ := hyx
    rw [hv] at hv31 ⊢
    rw [en, apx_nat (by omega), hv31]
    rcases hp with ⟨ht2, h10, hp⟩ | ⟨ht2, h10, hp⟩
    · have ht2 := cmp_lt_t ht2
      simp only [IE.den_var, IE.den_lit] at ht2
      have h10 : V.it 10 = IntKind.wrap .i64 (V.it 9 - 33) := h10
      have h10 := wrap_sm h10 (by omega) (by omega)
      rcases hp with ⟨_, h11, h12, h13, hp⟩ | ⟨ht3, _⟩
      case inr =>
        have := cmp_ge_f ht3
        simp only [IE.den_var, IE.den_lit] at this
        omega
      have h11 : V.it 11 = ibinF .shl .u64 1 (V.it 10) := h11
      rw [show V.it 10 = ((a - 33 : Nat) : Int) by omega] at h11
      have hp := enumT_post hp (k := i) ei (by omega)
      have hp : (SgA i).post V K := by
        rcases hi3 with h | h | h
        · rw [h] at hp ⊢; exact hp
        · rw [h] at hp ⊢; exact hp
        · rw [h] at hp ⊢; exact hp
      obtain ⟨k, hk, hK⟩ := SgA_val h5 ei hi ea (by omega) ha.2 h11 h12 h13 hx hxl hp
      refine ⟨k, ?_, hK⟩
      have hvd' : x0 + 2 ^ 64 * (x1 + 2 ^ 64 * (x2 + 2 ^ 64 * x3)) = (L + 2 ^ (64 * (i - 1)) * y) + 2 ^ (64 * i) * (x + 2 ^ 64 * R) := by
        rw [hvd, show 64 * i = 64 * (i - 1) + 64 by omega, Nat.pow_add, Nat.mul_add, Nat.add_assoc, Nat.mul_assoc]
      have hL' : L + 2 ^ (64 * (i - 1)) * y < 2 ^ (64 * i) := by
        rw [show 64 * i = 64 * (i - 1) + 64 by omega, Nat.pow_add]
        have := Nat.mul_le_mul_left (2 ^ (64 * (i - 1))) (Nat.succ_le_of_lt hyl)
        rw [Nat.mul_succ] at this
        omega
      rw [hk, apx_hi hna (by omega) ha.2 hvd' hL' hxl]
    · have ht2 := cmp_lt_f ht2
      simp only [IE.den_var, IE.den_lit] at ht2
      have h10 : V.it 10 = IntKind.wrap .i64 (V.it 9 - V.it 9) := h10
      have h10 := wrap_sm h10 (by omega) (by omega)
      rcases hp with ⟨_, h11, h12, h13, hp⟩ | ⟨ht3, _⟩
      case inr =>
        have := cmp_ge_f ht3
        simp only [IE.den_var, IE.den_lit] at this
        omega
      have h11 : V.it 11 = ibinF .shl .u64 1 (V.it 10) := h11
      rw [show V.it 10 = ((0 : Nat) : Int) by omega] at h11
      have hp := enumT_post hp (k := i) ei (by omega)
      have hp : (SgB i).post V K := by
        rcases hi3 with h | h | h
        · rw [h] at hp ⊢; exact hp
        · rw [h] at hp ⊢; exact hp
        · rw [h] at hp ⊢; exact hp
      obtain ⟨k, hk, hK⟩ := SgB_val h5 ei hi ea (by omega) h11 h12 h13 hx hxl hy hyl hp
      refine ⟨k, ?_, hK⟩
      rw [hk, apx_lo (i := i - 1) (a := a) (by omega) (by omega) hvd hL hyl]
theorem apx_leaf {P : Program} {call : CallF} (hcall : CallOK P FD call) {f : Nat} (hchk : ApxT.chk (fun ds => call f [pS 0, .a (.c (.iv .i64 4))] ⟨[(false, cl 0)], 0, 5, [], ds⟩) [] []) : PrimOK P FD f (.rd 11 4 [.i64] [.u64]) := by
  intro w b o ns ms hn hm hc hd
  match ns, ms, hn, hm with
  | [x0, x1, x2, x3], [n], _, _ =>
    obtain ⟨p0, p1, p2, p3, pn⟩ := hd
    refine ⟨rfl, ?_⟩
    have pn' : isI n := by unfold isI; simp only [Int.reducePow]; omega
    obtain ⟨V', ha, hp⟩ := PT.run hcall _ hchk (ks := [4, 1, 1, 1, 1]) (by kernel_rfl) rfl rfl (VL x0 x1 x2 x3 n 0 0 0 0 0) ⟨pn', p3, p2, p1, p0, trivial⟩ ((repR (V := VL x0 x1 x2 x3 n 0 0 0 0 0) (ns := [x0, x1, x2, x3]) (c := cl 0) ⟨rfl, rfl, rfl, rfl, trivial⟩ hc).other rfl) (us := [pt b o, .int .i64 n]) ⟨⟨b, o, rfl, rfl⟩, rfl, trivial⟩
    have e0 : V'.it 0 = x0 := ha.2 0 (by omega)
    have e1 : V'.it 1 = x1 := ha.2 1 (by omega)
    have e2 : V'.it 2 = x2 := ha.2 2 (by omega)
    have e3 : V'.it 3 = x3 := ha.2 3 (by omega)
    have e4 : V'.it 4 = n := ha.2 4 (by omega)
    obtain ⟨i, hi, hk⟩ := Apx_val (by rw [e0]; exact p0) (by rw [e1]; exact p1) (by rw [e2]; exact p2) (by rw [e3]; exact p3) (by rw [e4]; exact pn) hp
    rw [e0, e1, e2, e3, e4] at hi
    refine hk.mono ?_
    rintro e w' ⟨u, X, rfl, hr, hu⟩
    have hu : u = .int .u64 (V'.it i) := hu
    refine ⟨?_, hr.keeps⟩
    rw [hu, hi]; rfl
end Go.Proofs.YtnmkmbjbaagojaaGreatDoor
