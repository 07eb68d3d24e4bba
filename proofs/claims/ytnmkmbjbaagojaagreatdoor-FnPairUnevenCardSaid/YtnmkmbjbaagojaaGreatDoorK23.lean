/- A part of the proof of laws.FnPairUneven. -/
import Derived.Test.YtnmkmbjbaagojaaGreatDoorK22
import Derived.Test.YtnmkmbjbaagojaaGreatDoorK21
namespace Go.Proofs.YtnmkmbjbaagojaaGreatDoor
open Go
set_option maxRecDepth 100000
set_option linter.unusedVariables false
set_option linter.unusedSimpArgs false
/-! the inverse's tail -/
theorem words_elt {a b c d : Int} (ha : isW a) (hb : isW b) (hc : isW c) (hd : isW d) : ∃ (u : Fp) (jj : Int), a + 18446744073709551616 * b + 340282366920938463463374607431768211456 * c + 6277101735386680763835789423207666416102355444464034512896 * d = mont u + jj * 21888242871839275222246405745257275088696311157297823662689037894645226208583 ∧ (a = 0 → b = 0 → c = 0 → d = 0 → u = 0) := by
  have hn := val_nonneg ha.1 hb.1 hc.1 hd.1
  obtain ⟨n, hn⟩ := Int.eq_ofNat_of_zero_le hn
  refine ⟨unmont (n % pP), ((n / pP : Nat) : Int), ?_, fun h1 h2 h3 h4 => ?_⟩
  · rw [hn, mont_unmont (Nat.mod_lt _ pP_pos)]
    have hp : (21888242871839275222246405745257275088696311157297823662689037894645226208583 : Int) = (pP : Int) := by kernel_rfl
    rw [hp]
    have := Nat.mod_add_div n pP
    have h2 : ((n % pP + pP * (n / pP) : Nat) : Int) = (n : Int) := by rw [this]
    rw [Int.natCast_add, Int.natCast_mul, Int.mul_comm] at h2
    exact h2.symm
  · have : n = 0 := by rw [h1, h2, h3, h4] at hn; omega
    subst this
    show unmont (0 % pP) = 0
    kernel_rfl
def elF (V : VE FD) (i : Nat) : Fp := V.el i
def cA : Fp := unmont 4611686018427387904
def cC : Fp := unmont (val4 11111708840330028223 3098618286181893933 756602578711705709 1041752015607019851)
theorem yA_ok (V : VE FD) : ∀ i, i < 4 → (yA i).den V = wordN (mont cA) i
  | 0, _ => by show (4611686018427387904 : Int) = _; kernel_rfl
  | 1, _ => by show (0 : Int) = _; kernel_rfl
  | 2, _ => by show (0 : Int) = _; kernel_rfl
  | 3, _ => by show (0 : Int) = _; kernel_rfl
theorem yC_ok (V : VE FD) : ∀ i, i < 4 → (yC i).den V = wordN (mont cC) i
  | 0, _ => by show (11111708840330028223 : Int) = _; kernel_rfl
  | 1, _ => by show (3098618286181893933 : Int) = _; kernel_rfl
  | 2, _ => by show (756602578711705709 : Int) = _; kernel_rfl
  | 3, _ => by show (1041752015607019851 : Int) = _; kernel_rfl
/-- the words of a region that a shape names -/
theorem Good.words {V : VE FD} {n : Nat} {sh : List SA} {mem : Mem} {req same : List Nat} {m : Mem} {v : SV} (hg : Good V n sh mem req same m v) {r k : Nat} {f f' : Bool} {cs : List SC} {e : Fp} (hm : mem[r]? = some (f, cl k)) (hm' : m[r]? = some (f', cs)) (hc : LIs V [] cs (words4 (D := FD) e)) :
    ∀ i, i < 4 → (subV V [.var 0] (sigI n m v sh mem)).it (k + i) = wordN (mont e) i := by
  obtain ⟨f0, cs0, h1, _, h2⟩ := memConv_get hg.mconv hm
  rw [hm'] at h1
  simp only [Option.some.injEq, Prod.mk.injEq] at h1
  obtain ⟨rfl, rfl⟩ := h1
  obtain ⟨g0, g1, g2, g3, _⟩ := cellsConv_is h2 hc
  intro i hi
  match i, hi with
  | 0, _ => exact (Value.int.inj g0).2.symm
  | 1, _ => exact (Value.int.inj g1).2.symm
  | 2, _ => exact (Value.int.inj g2).2.symm
  | 3, _ => exact (Value.int.inj g3).2.symm
theorem iL4_res {V : VE FD} {K : Mem → SV → Prop} (hk : KsOK V 16 kT) (hp : iL4.post V K) :
    (V.it 4 < 18 ∧ Res V K 16 shT memT kT .normal fun V2 => V2.it 4 = V.it 4 + 2 ∧ ∃ e : Fp, (∀ i, i < 4 → V2.it i = wordN (mont e) i) ∧ (V.it 0 = 0 → V.it 1 = 0 → V.it 2 = 0 → V.it 3 = 0 → e = 0)) ∨
    Res V K 16 shT memT kT (.exit 4) fun V2 => ∀ i ∈ [0, 1, 2, 3, 4], V2.it i = V.it i := by
  have wx : ∀ i, i < 5 → isW (V.it i) := fun i hi => KsOK_word hk (by kernel_rfl) i hi
  have hp := PT.allK_ok (R := fun m v => (exOk .normal v = true → Good V 16 shT memT kT [] m v) ∧ (exOk (.exit 4) v = true → Good V 16 shT memT kT [0, 1, 2, 3, 4] m v)) (t := iL4) (ne := 1) (f := fun ni ks m v => (!exOk .normal v || goodOk 16 shT memT kT [] ni ks m v) && (!exOk (.exit 4) v || goodOk 16 shT memT kT [0, 1, 2, 3, 4] ni ks m v))
    (fun _ _ _ _ h hk => by
      simp only [Bool.and_eq_true, Bool.or_eq_true, Bool.not_eq_true'] at h
      exact ⟨fun he => by rcases h.1 with h | h; (· rw [he] at h; cases h); exact goodOk_ok h hk, fun he => by rcases h.2 with h | h; (· rw [he] at h; cases h); exact goodOk_ok h hk⟩) (by kernel_rfl) hk hp
  rcases hp with ⟨ht, hp⟩ | ⟨ht, hK, _, hg⟩
  · have ht : V.it 4 < 18 := cmp_lt_t ht
    obtain ⟨u, jj, hX, hz⟩ := words_elt (wx 0 (by omega)) (wx 1 (by omega)) (wx 2 (by omega)) (wx 3 (by omega))
    obtain ⟨cs, n, ⟨hn, hK, hg, _⟩, hcs⟩ := MulG_val (x := nm 0) (y := yA) (u1 := u) (u2 := cA) (jj := jj) (fun i hi => by show isW (V.it (0 + i)); rw [Nat.zero_add]; exact wx i (by omega)) hX (yA_ok V) hp
    have hg := hg rfl
    refine .inl ⟨ht, _, _, _, rfl, hK, _, hg, ?_, u * cA, ?_, fun h0 h1 h2 h3 => by rw [hz h0 h1 h2 h3]; kernel_rfl⟩
    · have hn : V.it n = (V.it 4 + 2) % 2 ^ 64 := hn
      have w4 := wx 4 (by omega)
      unfold isW at w4
      have : V.it n = V.it 4 + 2 := by rw [hn]; simp only [Int.reducePow] at *; omega
      rw [← this]; rfl
    · intro i hi
      have := hg.words (r := 5) (k := 0) (f := true) (f' := true) (cs := cs) (e := u * cA) rfl rfl (hcs []) i hi
      rwa [Nat.zero_add] at this
  · exact .inr ⟨_, _, _, rfl, hK, _, hg rfl, (hg rfl).same⟩
def memA2 : Mem := [(true, cl 9), (false, []), (true, one4), (true, cl 5), (true, w0 0), (true, cl 0)]
def memB2 : Mem := [(false, w0 0), (false, []), (true, one4), (true, cl 5), (true, w0 0), (true, cl 0), (true, cl 9)]
theorem iT2A_res {V : VE FD} {K : Mem → SV → Prop} (hk : KsOK V 16 kT) (hp : iT2A.post V K) :
    Res V K 16 [pz 0, pz 4, pz 5] memA2 kT .normal fun V2 => ∃ e : Fp, (∀ i, i < 4 → V2.it (9 + i) = wordN (mont e) i) ∧ (V.it 0 = 0 → V.it 1 = 0 → V.it 2 = 0 → V.it 3 = 0 → e = 0) := by
  have wx : ∀ i, i < 5 → isW (V.it i) := fun i hi => KsOK_word hk (by kernel_rfl) i hi
  have hp := post_good (n := 16) (sh := [pz 0, pz 4, pz 5]) (mem := memA2) (req := kT) (same := []) (ne := 1) (by kernel_rfl) hk hp
  obtain ⟨u, jj, hX, hz⟩ := words_elt (wx 0 (by omega)) (wx 1 (by omega)) (wx 2 (by omega)) (wx 3 (by omega))
  obtain ⟨cs, n, ⟨hK, hg⟩, hcs⟩ := MulG_val (x := nm 0) (y := yC) (u1 := u) (u2 := cC) (jj := jj) (fun i hi => by show isW (V.it (0 + i)); rw [Nat.zero_add]; exact wx i (by omega)) hX (yC_ok V) hp
  exact ⟨_, _, _, rfl, hK, _, hg, u * cC, fun i hi => hg.words (r := 0) (k := 9) (f := true) (f' := true) (cs := cs) (e := u * cC) rfl rfl (hcs []) i hi, fun h0 h1 h2 h3 => by rw [hz h0 h1 h2 h3]; kernel_rfl⟩
theorem iT2B_res {V : VE FD} {K : Mem → SV → Prop} (hk : KsOK V 16 kT) (hp : iT2B.post V K) :
    Res V K 16 [pz 6, pz 4, pz 5] memB2 kT .normal fun V2 => ∃ e : Fp, (∀ i, i < 4 → V2.it (9 + i) = wordN (mont e) i) ∧ (V.it 0 = 0 → V.it 1 = 0 → V.it 2 = 0 → V.it 3 = 0 → e = 0) := by
  have wx : ∀ i, i < 5 → isW (V.it i) := fun i hi => KsOK_word hk (by kernel_rfl) i hi
  have hp := post_good (n := 16) (sh := [pz 6, pz 4, pz 5]) (mem := memB2) (req := kT) (same := []) (ne := 1) (by kernel_rfl) hk hp
  obtain ⟨u, jj, hX, hz⟩ := words_elt (wx 0 (by omega)) (wx 1 (by omega)) (wx 2 (by omega)) (wx 3 (by omega))
  obtain ⟨cs, n, ⟨hK, hg⟩, hcs⟩ := MulG_val (x := nm 0) (y := yC) (u1 := u) (u2 := cC) (jj := jj) (fun i hi => by show isW (V.it (0 + i)); rw [Nat.zero_add]; exact wx i (by omega)) hX (yC_ok V) hp
  exact ⟨_, _, _, rfl, hK, _, hg, u * cC, fun i hi => hg.words (r := 6) (k := 9) (f := true) (f' := true) (cs := cs) (e := u * cC) rfl rfl (hcs []) i hi, fun h0 h1 h2 h3 => by rw [hz h0 h1 h2 h3]; kernel_rfl⟩
def memA4 : Mem := [(true, w0 1), (false, []), (true, one4), (true, cl 5), (true, w0 0), (true, w0 2)]
def memB4 : Mem := [(false, w0 0), (false, []), (true, one4), (true, cl 5), (true, w0 0), (true, w0 2), (true, w0 1)]
theorem iT4A_val {V : VE FD} {K : Mem → SV → Prop} (hp : iT4A.post V K) : elF V 2 = elF V 0 * elF V 1 ∧ (((elF V 2 = 1 ∨ elF V 0 = 0) ∧ K memA4 (exV .normal [pz 0, pz 4, .c (.lit (.bool false))])) ∨ (elF V 0 ≠ 0 ∧ K memA4 (exV .normal [pz 0, pz 4, .c (.lit (.bool true))]))) := by
  obtain ⟨h, hp⟩ := hp
  refine ⟨h, ?_⟩
  rcases hp with ⟨ht, hk⟩ | ⟨_, ⟨ht, hk⟩ | ⟨ht, hk⟩⟩
  · have ht : decide (elF V 2 = 1) = true := ht
    exact .inl ⟨.inl (of_decide_eq_true ht), hk⟩
  · have ht : decide (elF V 0 = 0) = true := ht
    exact .inl ⟨.inr (of_decide_eq_true ht), hk⟩
  · have ht : decide (elF V 0 = 0) = false := ht
    exact .inr ⟨of_decide_eq_false ht, hk⟩
theorem iT4B_val {V : VE FD} {K : Mem → SV → Prop} (hp : iT4B.post V K) : elF V 2 = elF V 0 * elF V 1 ∧ (((elF V 2 = 1 ∨ elF V 0 = 0) ∧ K memB4 (exV .normal [pz 6, pz 4, .c (.lit (.bool false))])) ∨ (elF V 0 ≠ 0 ∧ K memB4 (exV .normal [pz 6, pz 4, .c (.lit (.bool true))]))) := by
  obtain ⟨h, hp⟩ := hp
  refine ⟨h, ?_⟩
  rcases hp with ⟨ht, hk⟩ | ⟨_, ⟨ht, hk⟩ | ⟨ht, hk⟩⟩
  · have ht : decide (elF V 2 = 1) = true := ht
    exact .inl ⟨.inl (of_decide_eq_true ht), hk⟩
  · have ht : decide (elF V 0 = 0) = true := ht
    exact .inl ⟨.inr (of_decide_eq_true ht), hk⟩
  · have ht : decide (elF V 0 = 0) = false := ht
    exact .inr ⟨of_decide_eq_false ht, hk⟩
def powOk (r : Nat) (p : Nat) : Option (Mem × SV × Nat × List Nat) → Bool
  | some (m, .tup [.c (.lit (.int .u64 (.ofNat 1))), .c (.ptr q 0)], 363, e :: _) => Nat.beq q p && (Nat.beq e (pP - 2) && (match m[r]? with
    | some (true, [.wd (.var a) 0, .wd (.var b) 1, .wd (.var c) 2, .wd (.var d) 3]) => Nat.beq a 362 && (Nat.beq b 362 && (Nat.beq c 362 && Nat.beq d 362))
    | _ => false))
  | _ => false
theorem pow_res {t : PT} {V : VE FD} {K : Mem → SV → Prop} {r : Nat} (h : powOk r r (powEnd t 1 [1]) = true) (hp : t.post V K) : ∃ m, m[r]? = some (true, w0 362) ∧ K m (exV .ret [pz r]) ∧ elF V 362 = fpUn 3 (elF V 0) := by
  have h0 : Pows V (elF V 0) 1 [1] := ⟨by show (elF V 0).val = (elF V 0).val ^ 1 % pP; rw [Nat.pow_one, Nat.mod_eq_of_lt (elF V 0).isLt], trivial⟩
  unfold powOk at h
  split at h
  · rename_i m q e es heq
    simp only [Bool.and_eq_true] at h
    obtain ⟨e1, e2, h3⟩ := h
    have e1 := Nat.eq_of_beq_eq_true e1
    have e2 := Nat.eq_of_beq_eq_true e2
    subst e1
    split at h3
    · rename_i a b c d hm
      simp only [Bool.and_eq_true] at h3
      obtain ⟨q1, q2, q3, q4⟩ := h3
      have q1 := Nat.eq_of_beq_eq_true q1
      have q2 := Nat.eq_of_beq_eq_true q2
      have q3 := Nat.eq_of_beq_eq_true q3
      have q4 := Nat.eq_of_beq_eq_true q4
      subst q1; subst q2; subst q3; subst q4
      obtain ⟨hk, hpw⟩ := powEnd_ok t heq h0 hp
      refine ⟨m, hm, hk, ?_⟩
      have := hpw.1
      rw [e2] at this
      exact fpInv_of this
    · simp at h3
  · simp at h
theorem iT5A_pow : powOk 0 0 (powEnd iT5A 1 [1]) = true := by kernel_rfl
theorem iT5B_pow : powOk 6 6 (powEnd iT5B 1 [1]) = true := by kernel_rfl
/-! one outer round, in numbers -/
theorem apx_small {v n : Nat} (hn : n ≤ 64) (hv : v < 2 ^ n) : apx (v : Int) (n : Int) = v := by
  unfold apx
  rw [if_pos (by omega)]
  have : 2 ^ n ≤ 2 ^ 64 := Nat.pow_le_pow_right (by decide) hn
  simp only [Int.reducePow, Nat.reducePow] at *
  omega
theorem apx_big {v n : Nat} (hn : 64 < n) (hv : v < 2 ^ n) : apx (v : Int) (n : Int) = ((v % 2 ^ 31 + 2 ^ 31 * (v / 2 ^ (n - 33)) : Nat) : Int) := by
  rw [apx_nat hn, Nat.mod_eq_of_lt hv]
  simp only [Int.reducePow, Nat.reducePow]
  omega
theorem apx_err {v k : Nat} : ((v : Int) - (2 ^ (k - 31 + 0) : Nat) * 0).natAbs = v := by simp
theorem big_err {v m : Nat} : (((v : Nat) : Int) - ((2 ^ m : Nat) : Int) * ((v % 2 ^ 31 + 2 ^ 31 * (v / 2 ^ (m + 31)) : Nat) : Int)).natAbs ≤ 2 ^ (m + 31) := by
  have h1 := Nat.mod_add_div v (2 ^ (m + 31))
  have h2 : v % 2 ^ (m + 31) < 2 ^ (m + 31) := Nat.mod_lt _ (Nat.pow_pos (by decide))
  have h3 : v % 2 ^ 31 < 2 ^ 31 := Nat.mod_lt _ (by decide)
  have h4 : 2 ^ m * (v % 2 ^ 31) < 2 ^ (m + 31) := by
    rw [Nat.pow_add]; exact Nat.mul_lt_mul_of_pos_left h3 (Nat.pow_pos (by decide))
  have h5 : 2 ^ m * (v % 2 ^ 31 + 2 ^ 31 * (v / 2 ^ (m + 31))) = 2 ^ m * (v % 2 ^ 31) + 2 ^ (m + 31) * (v / 2 ^ (m + 31)) := by
    rw [Nat.mul_add, ← Nat.mul_assoc, ← Nat.pow_add]
  rw [← Int.natCast_mul, h5]
  generalize 2 ^ (m + 31) * (v / 2 ^ (m + 31)) = q at *
  generalize 2 ^ m * (v % 2 ^ 31) = r at *
  generalize v % 2 ^ (m + 31) = t at *
  generalize 2 ^ (m + 31) = u at *
  omega
theorem blen_ge {v n : Nat} (h : n = blen v) (hn : 0 < n) : 2 ^ (n - 1) ≤ v := by
  unfold blen at h
  split at h
  · omega
  · rename_i h0
    rw [h]
    exact Nat.log2_self_le h0
theorem blen_lt' {v n : Nat} (h : blen v ≤ n) : v < 2 ^ n := Nat.lt_of_lt_of_le blen_lt (Nat.pow_le_pow_right (by decide) h)
theorem round_math {x y A B n M : Nat} (hA : (A : Int) = apx (x : Int) n) (hB : (B : Int) = apx (y : Int) n) (hn : n = blen x ∨ n = blen y) (hx : blen x ≤ n) (hy : blen y ≤ n) (hodd : y % 2 = 1) (hxM : x ≤ M) (hyM : y ≤ M) :
    ∃ X Y : Int, 2 ^ 31 * X = (In.run 31 (In.start A B)).f0 * x + (In.run 31 (In.start A B)).g0 * y ∧
      2 ^ 31 * Y = (In.run 31 (In.start A B)).f1 * x + (In.run 31 (In.start A B)).g1 * y ∧ Y % 2 = 1 ∧ X.natAbs ≤ M ∧ Y.natAbs ≤ M ∧
      (0 < x → X.natAbs + Y.natAbs < x + y) ∧ (x = 0 → X = 0 ∧ Y.natAbs ≤ y) := by
  have hx2 := blen_lt' hx
  have hy2 := blen_lt' hy
  by_cases h64 : n ≤ 64
  · rw [apx_small h64 hx2] at hA
    rw [apx_small h64 hy2] at hB
    have hA : A = x := by omega
    have hB : B = y := by omega
    subst hA; subst hB
    exact outer_round (S := 1) (D := 0) hodd hodd ⟨0, by omega⟩ ⟨0, by omega⟩ (by simp) (by simp) (by omega) hxM hyM (fun h => h)
  · obtain ⟨m, rfl⟩ : ∃ m, n = m + 64 := ⟨n - 64, by omega⟩
    rw [apx_big (by omega) hx2, show m + 64 - 33 = m + 31 by omega] at hA
    rw [apx_big (by omega) hy2, show m + 64 - 33 = m + 31 by omega] at hB
    have hA := Int.ofNat.inj hA
    have hB := Int.ofNat.inj hB
    have d : ∀ (v : Nat) (q : Nat), (2 ^ 31 : Int) ∣ (v : Int) - ((v % 2 ^ 31 + 2 ^ 31 * q : Nat) : Int) := by
      intro v q
      have h := Nat.mod_add_div v (2 ^ 31)
      refine ⟨(v / 2 ^ 31 : Nat) - (q : Int), ?_⟩
      simp only [Int.reducePow, Nat.reducePow] at *
      omega
    have eA := big_err (v := x) (m := m)
    have eB := big_err (v := y) (m := m)
    have dA := d x (x / 2 ^ (m + 31))
    have dB := d y (y / 2 ^ (m + 31))
    rw [← hA] at eA dA
    rw [← hB] at eB dB
    have h2 : (2 ^ 31 : Nat) ∣ 2 ^ 31 := ⟨1, by simp⟩
    refine outer_round (S := 2 ^ m) (D := 2 ^ (m + 31)) hodd ?_ dA dB eA eB ?_ hxM hyM ?_
    · rw [hB]; simp only [Nat.reducePow]; omega
    · have top : ∀ v, m + 64 = blen v → 2 ^ 63 ≤ v % 2 ^ 31 + 2 ^ 31 * (v / 2 ^ (m + 31)) := by
        intro v hv
        have h1 := blen_ge hv (by omega)
        have h3 : 2 ^ 32 ≤ v / 2 ^ (m + 31) := by
          rw [Nat.le_div_iff_mul_le (Nat.pow_pos (by decide)), ← Nat.pow_add]
          rw [show 32 + (m + 31) = m + 64 - 1 by omega]; exact h1
        simp only [Nat.reducePow] at *
        omega
      have hs : 2 ^ 63 ≤ A + B := by
        rcases hn with h | h
        · have := top x h; omega
        · have := top y h; omega
      have h8 : 8 * 2 ^ (m + 31) = 2 ^ m * 2 ^ 34 := by rw [Nat.pow_add, Nat.mul_left_comm]
      rw [h8]
      refine Nat.mul_lt_mul_of_pos_left ?_ (Nat.pow_pos (by decide))
      simp only [Nat.reducePow] at *
      omega
    · intro h0
      rw [hA, h0]; simp
/-! the inverse: the main loop -/
noncomputable def L0c : Code := subP [2, 3] (hdC (dropF 9 cL))
noncomputable def L1c : Code := subP [2] (hdC (dropF 2 cL0))
noncomputable def L2c : Code := subP [2, 3] (hdC (dropF 4 cL1))
noncomputable def L3c : Code := subP [4] (hdC (dropF 25 cL1))
noncomputable def L3ec : Code := subP [5] (hdC (dropF 25 cL1))
noncomputable def cnd : Operand := match hdC (dropF 25 cL1) with | .cond c _ _ => c | _ => .tmp 0
theorem e9 : headF 8 (dropF 9 cL) = some (.block 0 (.loop L0c), dropF 10 cL) := by kernel_rfl
theorem e2 : headF 8 (dropF 2 cL0) = some (.block 1 L1c, dropF 3 cL0) := by kernel_rfl
theorem e4 : headF 8 (dropF 4 cL1) = some (.block 2 (.loop L2c), dropF 5 cL1) := by kernel_rfl
theorem e4b : dropF 4 cL2 = [] := by kernel_rfl
theorem e15 : dropF 10 (dropF 5 cL1) = dropF 15 cL1 := by kernel_rfl
theorem e24 : dropF 9 (dropF 15 cL1) = dropF 24 cL1 := by kernel_rfl
theorem e25 : headF 8 (dropF 1 (dropF 24 cL1)) = some (.cond cnd L3c L3ec, []) := by kernel_rfl
theorem e3d : dropF 1 (dropF 3 cL3) = [] := by kernel_rfl
theorem e3f : dropF 1 cL3e = [] := by kernel_rfl
theorem e0 : dropF 1 (dropF 3 cL0) = [] := by kernel_rfl
structure MI (e : Fp) (V : VE FD) : Prop where
  el : elF V 0 = e
  ks : KsOK V 27 kM
  odd : vb V % 2 = 1
  ale : va V ≤ pP
  ble : vb V ≤ pP
  z : e = 0 → va V = 0 ∧ V.it 26 = 0 ∧ V.it 12 = 0 ∧ V.it 13 = 0 ∧ V.it 14 = 0 ∧ V.it 15 = 0
def mu (V : VE FD) : Nat := 2 * (va V + vb V) + (V.it 26 % 2).toNat
theorem same_get {V V2 : VE FD} {l : List Nat} (h : ∀ i ∈ l, V2.it i = V.it i) {i : Nat} (hi : l.any (Nat.beq i) = true) : V2.it i = V.it i := by
  obtain ⟨j, h1, h2⟩ := List.any_eq_true.1 hi
  have := Nat.eq_of_beq_eq_true h2
  subst this
  exact h _ h1
theorem va_same {V V2 : VE FD} {l : List Nat} (h : ∀ i ∈ l, V2.it i = V.it i) (hl : [0, 1, 2, 3].all (fun i => l.any (Nat.beq i)) = true) : va V2 = va V := by
  simp only [List.all_cons, Bool.and_eq_true] at hl
  unfold va
  rw [same_get h hl.1, same_get h hl.2.1, same_get h hl.2.2.1, same_get h hl.2.2.2.1]
theorem vb_same {V V2 : VE FD} {l : List Nat} (h : ∀ i ∈ l, V2.it i = V.it i) (hl : [4, 5, 6, 7].all (fun i => l.any (Nat.beq i)) = true) : vb V2 = vb V := by
  simp only [List.all_cons, Bool.and_eq_true] at hl
  unfold vb
  rw [same_get h hl.1, same_get h hl.2.1, same_get h hl.2.2.1, same_get h hl.2.2.2.1]
theorem agree_it {V V' : VE FD} {ne ni : Nat} (h : Agree ne ni V V') : ∀ i ∈ List.range ni, V'.it i = V.it i := fun i hi => h.2 i (List.mem_range.1 hi)
theorem KsOK.of_agree {V V' : VE FD} {ne n : Nat} {ks : List Nat} (hk : KsOK V n ks) (h : Agree ne n V V') : KsOK V' n ks := hk.agree fun i hi => h.2 i hi
abbrev TKM (V : VE FD) (B : Bs) (a : Act) : Prop := TOK V B 239 (mkT (zipT tsM shM)) a
abbrev RPM (S : Nat → Nat → Prop) (w0 : World) (V : VE FD) (B : Bs) (w : World) : Prop := Rep S w0 V B ⟨memM, 0, 0, [], []⟩ w
/-- the inner loop -/
theorem inner_ok {S : Nat → Nat → Prop} {w0 : World} {B : Bs} {Q : Exit → Act → World → Prop} {A0 B0 : Nat} {e : Fp} {V0 : VE FD}
    (hQ : ∀ V2 a w, KsOK V2 30 kI0 → elF V2 0 = e → (∀ i ∈ sB1, V2.it i = V0.it i) → V2.it 20 = pk (In.run 31 (In.start A0 B0)).f0 (In.run 31 (In.start A0 B0)).g0 → V2.it 21 = pk (In.run 31 (In.start A0 B0)).f1 (In.run 31 (In.start A0 B0)).g1 →
      TOK V2 B 239 (mkT (zipT tsI shI)) a → RPM S w0 V2 B w → Q (.exit 2) a w) :
    ∀ V1, KsOK V1 30 kI0 → elF V1 0 = e → (∀ i ∈ sB1, V1.it i = V0.it i) → V1.it 20 = pk 1 0 → V1.it 21 = pk 0 1 → V1.it 27 = A0 → V1.it 28 = B0 → V1.it 29 = 0 →
      ∀ a w, TOK V1 B 239 (mkT (zipT tsI shI)) a → RPM S w0 V1 B w → (Code.loop L2c).wp Tryz.prog Q a w := by
  intro V1 k1 he1 hs1 c0 c1 ha hb hj a w hta hrw
  refine loop_sx (T := mkT (zipT tsI shI)) (mem := memM) (S := S) (w0 := w0) (N := 239) (B := B) (Q := Q)
    (I := fun V => KsOK V 30 kI0 ∧ elF V 0 = e ∧ (∀ i ∈ sB1, V.it i = V0.it i) ∧ ∃ j : Nat, j ≤ 31 ∧ V.it 29 = j ∧ V.it 27 = (In.run j (In.start A0 B0)).a ∧ V.it 28 = (In.run j (In.start A0 B0)).b ∧ V.it 20 = pk (In.run j (In.start A0 B0)).f0 (In.run j (In.start A0 B0)).g0 ∧ V.it 21 = pk (In.run j (In.start A0 B0)).f1 (In.run j (In.start A0 B0)).g1)
    (μ := fun V => (31 - V.it 29).toNat) ?_ V1 ⟨k1, he1, hs1, 0, by omega, hj, ha, hb, c0, c1⟩ a w hta hrw
  rintro V ⟨hk, he, hs, j, hj31, hj, ha, hb, c0, c1⟩ R hnext hexit a w hta hrw
  refine wpL_code (show wpL Tryz.prog R cL2 a w from ?_)
  obtain ⟨V', hag, hp⟩ := seg_runN C1_ok mixed callI_ok iIn iIn_chk (ks := kI0) (by kernel_rfl) rfl (by kernel_rfl) S w0 V hk
  have hk' := hk.of_agree hag
  have g : ∀ i, i < 30 → V'.it i = V.it i := fun i hi => hag.2 i hi
  rcases iIn_res hk' (s := In.run j (In.start A0 B0)) (by rw [g 29 (by omega)]; exact hj) hj31 (by rw [g 27 (by omega)]; exact ha) (by rw [g 28 (by omega)]; exact hb) (by rw [g 20 (by omega)]; exact c0) (by rw [g 21 (by omega)]; exact c1) hp with ⟨hlt, hres⟩ | ⟨heq, hres⟩
  · refine hres.go' rfl hta hrw ?_
    rintro V2 hel hk2 ⟨hs2, d0, d1, da, db, dj⟩ a' w' h1 h2
    rw [e4b]
    refine hnext V2 ⟨hk2, ?_, ?_, j + 1, by omega, dj, da, db, d0, d1⟩ ?_ a' w' h1 h2
    · show V2.el 0 = e
      rw [hel, hag.1 0 (by omega)]; exact he
    · intro i hi
      rw [hs2 i hi, g i (by have : sB1.all (fun i => Nat.blt i 30) = true := by kernel_rfl
                            exact Nat.le_of_ble_eq_true (List.all_eq_true.1 this i hi)), hs i hi]
    · show (31 - V2.it 29).toNat < (31 - V.it 29).toNat
      rw [dj, hj]; omega
  · refine hres.go' rfl hta hrw ?_
    intro V2 hel hk2 hs2 a' w' h1 h2
    refine hexit (.exit 2) a' w' (by simp) ?_
    have q : ∀ i, all30.any (Nat.beq i) = true → i < 30 → V2.it i = V.it i := fun i hi hlt => by rw [same_get hs2 hi, g i hlt]
    subst heq
    refine hQ V2 a' w' hk2 ?_ ?_ (by rw [q 20 rfl (by omega)]; exact c0) (by rw [q 21 rfl (by omega)]; exact c1) h1 h2
    · show V2.el 0 = e
      rw [hel, hag.1 0 (by omega)]; exact he
    · intro i hi
      have hb : sB1.all (fun i => all30.any (Nat.beq i) && Nat.blt i 30) = true := by kernel_rfl
      have hb := List.all_eq_true.1 hb i hi
      simp only [Bool.and_eq_true] at hb
      rw [q i hb.1 (Nat.le_of_ble_eq_true hb.2), hs i hi]
section
set_option exponentiation.threshold 512
/-! the inverse: one round of the main loop -/
theorem kM_of {V : VE FD} (h : KsOK V 30 kI0) (h21 : isI (V.it 21)) : KsOK V 27 kM := by
  obtain ⟨_, _, _, k26, k25, k24, k23, k22, _, k20, r⟩ := h
  exact ⟨k26, k25, k24, k23, k22, h21, k20, r⟩
theorem natAbs_bd {z X : Int} {M : Nat} (h : 2 ^ 31 * X = z) (hX : X.natAbs ≤ M) (hM : M ≤ pP) : z.natAbs < 2 ^ 287 ∧ z.natAbs / 2 ^ 31 = X.natAbs := by
  have e : z.natAbs = 2 ^ 31 * X.natAbs := by rw [← h, Int.natAbs_mul]; rfl
  refine ⟨?_, by rw [e]; exact Nat.mul_div_cancel_left _ (by decide)⟩
  have hp : pP < 2 ^ 256 := by decide
  rw [e, show 287 = 31 + 256 by rfl, Nat.pow_add]
  exact Nat.mul_lt_mul_of_pos_left (by omega) (by decide)
theorem vals {V : VE FD} (hk : KsOK V 27 kM) : val4I (V.it 0) (V.it 1) (V.it 2) (V.it 3) = va V ∧ val4I (V.it 4) (V.it 5) (V.it 6) (V.it 7) = vb V := by
  have wx : ∀ i, i < 20 → isW (V.it i) := fun i hi => KsOK_word hk (by kernel_rfl) i hi
  exact ⟨(val4I_cast (wx 0 (by omega)) (wx 1 (by omega)) (wx 2 (by omega)) (wx 3 (by omega))).symm, (val4I_cast (wx 4 (by omega)) (wx 5 (by omega)) (wx 6 (by omega)) (wx 7 (by omega))).symm⟩
theorem apx_nn {v n : Nat} : ∃ A : Nat, (A : Int) = apx (v : Int) n := ⟨(apx (v : Int) n).toNat, by have := (apx_word (v := (v : Int)) (n := (n : Int)) (by omega) (by omega)).1; omega⟩
/-- behind the two combinations: u, v, the counter -/
theorem rest_ok {S : Nat → Nat → Prop} {w0 : World} {B : Bs} {e : Fp} {X Y : Nat} {ii : Int} {R : Exit → Act → World → Prop}
    (hR : ∀ V2 a w, KsOK V2 27 kM → elF V2 0 = e → va V2 = X → vb V2 = Y → V2.it 26 = (ii + 1) % 2 ^ 64 → TKM V2 B a → RPM S w0 V2 B w → R .normal a w) :
    ∀ V a w, KsOK V 29 k4 → elF V 0 = e → va V = X → vb V = Y → V.it 26 = ii → TOK V B 239 (mkT (zipT ts4 sh4)) a → RPM S w0 V B w → wpL Tryz.prog (Exit.inBlock 1 (Exit.then (wpL Tryz.prog R (dropF 3 cL0)) R)) (dropF 24 cL1) a w := by
  -- the counter
  have hI : ∀ V a w, KsOK V 27 kM → elF V 0 = e → va V = X → vb V = Y → V.it 26 = ii → TKM V B a → RPM S w0 V B w → wpL Tryz.prog R (dropF 3 cL0) a w := by
    intro V a w hk he hx hy hi hta hrw
    obtain ⟨V', hag, hp⟩ := seg_runN C1_ok mixed callI_ok iI iI_chk (ks := kM) (by kernel_rfl) rfl (by kernel_rfl) S w0 V hk
    have g : ∀ i ∈ List.range 27, V'.it i = V.it i := agree_it hag
    refine (iI_res (hk.of_agree hag) hp).go' rfl hta hrw ?_
    rintro V2 hel hk2 ⟨hs, h26⟩ a' w' h1 h2
    rw [e0]
    refine hR V2 a' w' hk2 ?_ ?_ ?_ ?_ h1 h2
    · show V2.el 0 = e
      rw [hel, hag.1 0 (by omega)]; exact he
    · rw [va_same hs rfl, va_same g rfl, hx]
    · rw [vb_same hs rfl, vb_same g rfl, hy]
    · rw [h26, hag.2 26 (by omega), hi]
  intro V a w hk he hx hy hi hta hrw
  obtain ⟨V', hag, hp⟩ := seg_runN C1_ok mixed callI_ok iB3c iB3c_chk (ks := k4) (by kernel_rfl) rfl (by kernel_rfl) S w0 V hk
  have g : ∀ i ∈ List.range 29, V'.it i = V.it i := agree_it hag
  have hk' := hk.of_agree hag
  have fin : ∀ V2 a w, KsOK V2 27 kM → elF V2 0 = e → va V2 = X → vb V2 = Y → V2.it 26 = ii → TKM V2 B a → RPM S w0 V2 B w →
      wpL Tryz.prog (Exit.then (wpL Tryz.prog (Exit.inBlock 1 (Exit.then (wpL Tryz.prog R (dropF 3 cL0)) R)) []) (Exit.inBlock 1 (Exit.then (wpL Tryz.prog R (dropF 3 cL0)) R))) [] a w := hI
  rcases iB3c_res hk' hp with ⟨hodd, m, v, l, hv, hK, hg⟩ | ⟨hev, m, v, l, hv, hK, hg⟩
  · refine hK.go' hv hg rfl hta hrw ?_
    intro a1 w1 h1 h2
    have hs := hg.same
    have hel : elF (subV V' [.var 0] (sigI 29 m v (sh4 ++ [.c (.lit (.bool true))]) memM)) 0 = e := by
      show V'.el 0 = e
      rw [hag.1 0 (by omega)]; exact he
    have hkk := hg.kinds
    generalize hV2 : subV V' [.var 0] (sigI 29 m v (sh4 ++ [.c (.lit (.bool true))]) memM) = V2 at *
    refine wpL_head e25 (wp_cond_true (h1.opnd (x := cnd) (v := .a (.c (.lit (.bool true)))) (by kernel_rfl)) ?_)
    refine wpL_code (show wpL Tryz.prog _ cL3 a1 w1 from ?_)
    have h1 := pick_tok h1 (ts := ts4) (l := sh4) (by kernel_rfl)
    obtain ⟨V3, hag3, hp3⟩ := seg_runN C1_ok mixed callI_ok iB3d iB3d_chk (ks := k4) (by kernel_rfl) rfl (by kernel_rfl) S w0 V2 hkk
    have g3 : ∀ i ∈ List.range 29, V3.it i = V2.it i := agree_it hag3
    refine (iB3d_res (hkk.of_agree hag3) hp3).go' rfl h1 h2 ?_
    intro V4 hel4 hk4 hs4 a2 w2 h3 h4
    obtain ⟨V5, hag5, hp5⟩ := seg_runN C1_ok mixed callI_ok iB3e iB3e_chk (ks := k3) (by kernel_rfl) rfl (by kernel_rfl) S w0 V4 hk4
    have g5 : ∀ i ∈ List.range 28, V5.it i = V4.it i := agree_it hag5
    refine (iB3e_res (hk4.of_agree hag5) hp5).go' rfl h3 h4 ?_
    intro V6 hel6 hk6 hs6 a3 w3 h5 h6
    rw [e3d]
    refine fin V6 a3 w3 hk6 ?_ ?_ ?_ ?_ h5 h6
    · show V6.el 0 = e
      rw [hel6, hag5.1 0 (by omega), hel4, hag3.1 0 (by omega)]; exact hel
    · rw [va_same hs6 rfl, va_same g5 rfl, va_same hs4 rfl, va_same g3 rfl, va_same hs rfl, va_same g rfl, hx]
    · rw [vb_same hs6 rfl, vb_same g5 rfl, vb_same hs4 rfl, vb_same g3 rfl, vb_same hs rfl, vb_same g rfl, hy]
    · rw [same_get hs6 rfl, same_get g5 rfl, same_get hs4 rfl, same_get g3 rfl, same_get hs rfl, same_get g rfl, hi]
  · refine hK.go' hv hg rfl hta hrw ?_
    intro a1 w1 h1 h2
    have hs := hg.same
    have hel : elF (subV V' [.var 0] (sigI 29 m v (sh4 ++ [.c (.lit (.bool false))]) memM)) 0 = e := by
      show V'.el 0 = e
      rw [hag.1 0 (by omega)]; exact he
    have hkk := hg.kinds
    generalize hV2 : subV V' [.var 0] (sigI 29 m v (sh4 ++ [.c (.lit (.bool false))]) memM) = V2 at *
    refine wpL_head e25 (wp_cond_false (h1.opnd (x := cnd) (v := .a (.c (.lit (.bool false)))) (by kernel_rfl)) ?_)
    refine wpL_code (show wpL Tryz.prog _ cL3e a1 w1 from ?_)
    have h1 := pick_tok h1 (ts := ts4) (l := sh4) (by kernel_rfl)
    obtain ⟨V3, hag3, hp3⟩ := seg_runN C1_ok mixed callI_ok iB3f iB3f_chk (ks := k4) (by kernel_rfl) rfl (by kernel_rfl) S w0 V2 hkk
    have g3 : ∀ i ∈ List.range 29, V3.it i = V2.it i := agree_it hag3
    refine (iB3f_res (hkk.of_agree hag3) hp3).go' rfl h1 h2 ?_
    intro V4 hel4 hk4 hs4 a2 w2 h3 h4
    rw [e3f]
    refine fin V4 a2 w2 hk4 ?_ ?_ ?_ ?_ h3 h4
    · show V4.el 0 = e
      rw [hel4, hag3.1 0 (by omega)]; exact hel
    · rw [va_same hs4 rfl, va_same g3 rfl, va_same hs rfl, va_same g rfl, hx]
    · rw [vb_same hs4 rfl, vb_same g3 rfl, vb_same hs rfl, vb_same g rfl, hy]
    · rw [same_get hs4 rfl, same_get g3 rfl, same_get hs rfl, same_get g rfl, hi]
end
/-! the inverse: the main loop -/
theorem main_ok {S : Nat → Nat → Prop} {w0 : World} {B : Bs} {e : Fp} {Q : Exit → Act → World → Prop}
    (hQ : ∀ V2 a w, KsOK V2 27 kM → elF V2 0 = e → (e = 0 → V2.it 12 = 0 ∧ V2.it 13 = 0 ∧ V2.it 14 = 0 ∧ V2.it 15 = 0) → TKM V2 B a → RPM S w0 V2 B w → Q (.exit 0) a w) :
    ∀ V, MI e V → ∀ a w, TKM V B a → RPM S w0 V B w → (Code.loop L0c).wp Tryz.prog Q a w := by
  refine loop_sx (T := mkT (zipT tsM shM)) (mem := memM) (S := S) (w0 := w0) (N := 239) (B := B) (Q := Q) (I := MI e) (μ := mu) ?_
  intro V hm R hnext hexit a w hta hrw
  refine wpL_code (show wpL Tryz.prog R cL0 a w from ?_)
  obtain ⟨V1, hag1, hp1⟩ := seg_runN C1_ok mixed callI_ok iA iA_chk (ks := kM) (by kernel_rfl) rfl (by kernel_rfl) S w0 V hm.ks
  have g1 : ∀ i ∈ List.range 27, V1.it i = V.it i := agree_it hag1
  have hk1 := hm.ks.of_agree hag1
  have el1 : V1.el 0 = e := by rw [hag1.1 0 (by omega)]; exact hm.el
  rcases iA_res hk1 hp1 with ⟨hev, z0, z1, z2, z3, hres⟩ | ⟨hgo, hres⟩
  · refine hres.go' rfl hta hrw ?_
    intro V2 hel2 hk2 hs2 a1 w1 h1 h2
    refine hexit (.exit 0) a1 w1 (by simp) (hQ V2 a1 w1 hk2 ?_ ?_ h1 h2)
    · show V2.el 0 = e
      rw [hel2]; exact el1
    · intro h
      obtain ⟨_, _, p12, p13, p14, p15⟩ := hm.z h
      refine ⟨?_, ?_, ?_, ?_⟩
      · rw [same_get hs2 rfl, same_get g1 rfl, p12]
      · rw [same_get hs2 rfl, same_get g1 rfl, p13]
      · rw [same_get hs2 rfl, same_get g1 rfl, p14]
      · rw [same_get hs2 rfl, same_get g1 rfl, p15]
  · have hx1 : va V1 = va V := va_same g1 rfl
    have hy1 : vb V1 = vb V := vb_same g1 rfl
    have hi1 : V1.it 26 = V.it 26 := same_get g1 rfl
    rw [hx1, hi1] at hgo
    have hne : e ≠ 0 := by
      intro h
      obtain ⟨pa, pi, _⟩ := hm.z h
      rcases hgo with h | h
      · rw [pi] at h; simp at h
      · exact h pa
    refine hres.go' rfl hta hrw ?_
    intro V2 hel2 hk2 hs2 a1 w1 h1 h2
    have el2 : V2.el 0 = e := by rw [hel2]; exact el1
    have hx2 : va V2 = va V := by rw [va_same hs2 rfl, hx1]
    have hy2 : vb V2 = vb V := by rw [vb_same hs2 rfl, hy1]
    have hi2 : V2.it 26 = V.it 26 := by rw [same_get hs2 rfl, hi1]
    refine wpL_head e2 (wp_block (wpL_code (show wpL Tryz.prog _ cL1 a1 w1 from ?_)))
    -- the approximations
    obtain ⟨V3, hag3, hp3⟩ := seg_runN C1_ok mixed callI_ok iB1 iB1_chk (ks := kM) (by kernel_rfl) rfl (by kernel_rfl) S w0 V2 hk2
    have g3 : ∀ i ∈ List.range 27, V3.it i = V2.it i := agree_it hag3
    have hk3 := hk2.of_agree hag3
    have hx3 : va V3 = va V := by rw [va_same g3 rfl, hx2]
    have hy3 : vb V3 = vb V := by rw [vb_same g3 rfl, hy2]
    obtain ⟨n, hn, hnx, hny, hres3⟩ := iB1_res hk3 hp3
    rw [(vals hk3).1, (vals hk3).2] at hres3
    rw [hx3, hy3] at hn hres3
    rw [hx3] at hnx
    rw [hy3] at hny
    obtain ⟨A, hA⟩ := apx_nn (v := va V) (n := n)
    obtain ⟨B0, hB⟩ := apx_nn (v := vb V) (n := n)
    obtain ⟨X, Y, hX, hY, hYo, hXM, hYM, hfall, hzero⟩ := round_math hA hB hn hnx hny hm.odd hm.ale hm.ble
    have hbd := In.bd_run A B0 31
    refine hres3.go' rfl h1 h2 ?_
    rintro V4 hel4 hk4 ⟨hs4, q20, q21, q27, q28, q29⟩ a2 w2 h3 h4
    have el4 : V4.el 0 = e := by rw [hel4, hag3.1 0 (by omega)]; exact el2
    have hx4 : va V4 = va V := by rw [va_same hs4 rfl, hx3]
    have hy4 : vb V4 = vb V := by rw [vb_same hs4 rfl, hy3]
    have hi4 : V4.it 26 = V.it 26 := by rw [same_get hs4 rfl, same_get g3 rfl, hi2]
    refine wpL_head e4 (wp_block ?_)
    -- the inner loop
    refine inner_ok (S := S) (w0 := w0) (B := B) (A0 := A) (B0 := B0) (e := e) (V0 := V4) ?_ V4 hk4 el4 (fun _ _ => rfl) (by rw [q20]; rfl) (by rw [q21]; kernel_rfl) (by rw [q27, hA]) (by rw [q28, hB]) q29 a2 w2 h3 h4
    intro V5 a3 w3 hk5 el5 hs5 c0 c1 h5 h6
    have hk5 : KsOK V5 27 kM := kM_of hk5 (by rw [c1]; exact wrap_i64 _)
    have hx5 : va V5 = va V := by rw [va_same hs5 rfl, hx4]
    have hy5 : vb V5 = vb V := by rw [vb_same hs5 rfl, hy4]
    have hi5 : V5.it 26 = V.it 26 := by rw [same_get hs5 rfl, hi4]
    have h5 := pick_tok h5 (ts := tsM) (l := shM) (by kernel_rfl)
    show wpL Tryz.prog _ (dropF 5 cL1) a3 w3
    generalize In.run 31 (In.start A B0) = s at *
    have f0 := hbd.f0l; have f0' := hbd.f0h; have f1 := hbd.f1l; have f1' := hbd.f1h; have g0 := hbd.g0l; have g0' := hbd.g0h; have g1b := hbd.g1l; have g1' := hbd.g1h
    simp only [Int.reducePow] at f0 f0' f1 f1' g0 g0' g1b g1'
    -- the first number
    obtain ⟨V6, hag6, hp6⟩ := seg_runN C1_ok mixed callI_ok iB3a iB3a_chk (ks := kM) (by kernel_rfl) rfl (by kernel_rfl) S w0 V5 hk5
    have g6 : ∀ i ∈ List.range 27, V6.it i = V5.it i := agree_it hag6
    have hk6 := hk5.of_agree hag6
    have hx6 : va V6 = va V := by rw [va_same g6 rfl, hx5]
    have hy6 : vb V6 = vb V := by rw [vb_same g6 rfl, hy5]
    have bX := natAbs_bd hX hXM (Nat.le_refl _)
    have bY := natAbs_bd hY hYM (Nat.le_refl _)
    have hres6 := iB3a_res hk6 (f := s.f0) (g := s.g0) (by omega) (by omega) (by rw [same_get g6 rfl]; exact c0) (by rw [(vals hk6).1, (vals hk6).2, hx6, hy6]; exact bX.1) hp6
    rw [(vals hk6).1, (vals hk6).2, hx6, hy6, bX.2] at hres6
    refine hres6.go' rfl h5 h6 ?_
    rintro V7 hel7 hk7 ⟨hs7, hv7, hss⟩ a4 w4 h7 h8
    rw [e15]
    show wpL Tryz.prog _ (dropF 15 cL1) a4 w4
    have hk7' : KsOK V7 27 kM := hk7.2
    have hx7 : va V7 = X.natAbs := by have := (vals hk7').1; rw [hv7] at this; exact (Int.ofNat.inj this).symm
    have hy7 : vb V7 = vb V := by rw [vb_same hs7 rfl, hy6]
    have hsx : val4I (V7.it 16) (V7.it 17) (V7.it 18) (V7.it 19) = va V := by
      have p0 := hss 0 (by omega)
      have p1 := hss 1 (by omega)
      have p2 := hss 2 (by omega)
      have p3 := hss 3 (by omega)
      simp only [Nat.reduceAdd] at p0 p1 p2 p3
      rw [p0, p1, p2, p3, (vals hk6).1, hx6]
    -- the second number
    obtain ⟨V8, hag8, hp8⟩ := seg_runN C1_ok mixed callI_ok iB3b iB3b_chk (ks := k3) (by kernel_rfl) rfl (by kernel_rfl) S w0 V7 hk7
    have g8 : ∀ i ∈ List.range 28, V8.it i = V7.it i := agree_it hag8
    have hk8 := hk7.of_agree hag8
    have hk8' : KsOK V8 27 kM := hk8.2
    have hy8 : vb V8 = vb V := by rw [vb_same g8 rfl, hy7]
    have hsx8 : val4I (V8.it 16) (V8.it 17) (V8.it 18) (V8.it 19) = va V := by rw [same_get g8 rfl, same_get g8 rfl, same_get g8 rfl, same_get g8 rfl]; exact hsx
    have hres8 := iB3b_res hk8 (f := s.f1) (g := s.g1) (by omega) (by omega) (by rw [same_get g8 rfl, same_get hs7 rfl, same_get g6 rfl]; exact c1) (by rw [hsx8, (vals hk8').2, hy8]; exact bY.1) hp8
    rw [hsx8, (vals hk8').2, hy8, bY.2] at hres8
    refine hres8.go' rfl h7 h8 ?_
    rintro V9 hel9 hk9 ⟨hs9, hv9⟩ a5 w5 h9 h10
    rw [e24]
    have hk9' : KsOK V9 27 kM := hk9.2.2
    have hy9 : vb V9 = Y.natAbs := by have := (vals hk9').2; rw [hv9] at this; exact (Int.ofNat.inj this).symm
    have hx9 : va V9 = X.natAbs := by rw [va_same hs9 rfl, va_same g8 rfl, hx7]
    have hi9 : V9.it 26 = V.it 26 := by rw [same_get hs9 rfl, same_get g8 rfl, same_get hs7 rfl, same_get g6 rfl, hi5]
    have el9 : elF V9 0 = e := by
      show V9.el 0 = e
      rw [hel9, hag8.1 0 (by omega), hel7, hag6.1 0 (by omega)]; exact el5
    -- the rest
    refine rest_ok (S := S) (w0 := w0) (B := B) (e := e) (X := X.natAbs) (Y := Y.natAbs) (ii := V.it 26) (R := R) ?_ V9 a5 w5 hk9 el9 hx9 hy9 hi9 h9 h10
    intro V10 a6 w6 hk10 el10 hx10 hy10 hi10 h11 h12
    have w26 : isW (V.it 26) := hm.ks.1
    unfold isW at w26
    simp only [Int.reducePow] at w26 hi10
    refine hnext V10 ⟨el10, hk10, by rw [hy10]; omega, by rw [hx10]; exact hXM, by rw [hy10]; exact hYM, fun h => absurd h hne⟩ ?_ a6 w6 h11 h12
    show 2 * (va V10 + vb V10) + (V10.it 26 % 2).toNat < 2 * (va V + vb V) + (V.it 26 % 2).toNat
    rw [hx10, hy10, hi10]
    by_cases hx0 : va V = 0
    · obtain ⟨r1, r2⟩ := hzero hx0
      have hpar : V.it 26 % 2 = 1 := by
        rcases hgo with h | h
        · exact h
        · exact absurd hx0 h
      rw [r1]
      omega
    · have := hfall (by omega)
      omega
/-! the inverse: its start, and the second loop -/
noncomputable def L4c : Code := subP [2, 3] (hdC (dropF 11 cL))
theorem e10 : dropF 1 (dropF 10 cL) = dropF 11 cL := by kernel_rfl
theorem e11 : headF 8 (dropF 11 cL) = some (.block 4 (.loop L4c), dropF 12 cL) := by kernel_rfl
theorem e4l : dropF 4 cL4 = [] := by kernel_rfl
def VM (e : Fp) : VE FD := ⟨fun _ => e, fun i => match i with
  | 0 => wordN (mont e) 0 | 1 => wordN (mont e) 1 | 2 => wordN (mont e) 2 | 3 => wordN (mont e) 3
  | 4 => 4332616871279656263 | 5 => 10917124144477883021 | 6 => 13281191951274694749 | 7 => 3486998266802970665 | 8 => 1 | _ => 0⟩
theorem isW_lit {n : Nat} (h : n < 2 ^ 64) : isW (n : Int) := ⟨Int.natCast_nonneg n, by simp only [Int.reducePow, Nat.reducePow] at *; omega⟩
theorem isI0 : isI 0 := ⟨by decide, by decide⟩
theorem val4I_eq (a b c d : Int) : val4I a b c d = a + 18446744073709551616 * b + 340282366920938463463374607431768211456 * c + 6277101735386680763835789423207666416102355444464034512896 * d := by
  unfold val4I
  simp only [Int.reducePow]
  omega
theorem VM_ks (e : Fp) : KsOK (VM e) 27 kM :=
  ⟨isW_lit (n := 0) (by decide), isI0, isI0, isI0, isI0, isI0, isI0,
   isW_lit (n := 0) (by decide), isW_lit (n := 0) (by decide), isW_lit (n := 0) (by decide), isW_lit (n := 0) (by decide), isW_lit (n := 0) (by decide), isW_lit (n := 0) (by decide), isW_lit (n := 0) (by decide), isW_lit (n := 0) (by decide),
   isW_lit (n := 0) (by decide), isW_lit (n := 0) (by decide), isW_lit (n := 0) (by decide), isW_lit (n := 1) (by decide), isW_lit (n := 3486998266802970665) (by decide), isW_lit (n := 13281191951274694749) (by decide), isW_lit (n := 10917124144477883021) (by decide), isW_lit (n := 4332616871279656263) (by decide),
   wordN_isW _ 3, wordN_isW _ 2, wordN_isW _ 1, wordN_isW _ 0, trivial⟩
theorem VM_va (e : Fp) : va (VM e) = mont e := by
  have h := mont_val (x := fun i => .var i) (V := VM e) (e := e) (fun i hi => by
    match i, hi with
    | 0, _ => rfl
    | 1, _ => rfl
    | 2, _ => rfl
    | 3, _ => rfl)
  have h2 : val4I ((VM e).it 0) ((VM e).it 1) ((VM e).it 2) ((VM e).it 3) = (mont e : Int) := (val4I_eq _ _ _ _).trans h
  unfold va
  rw [h2, Int.toNat_natCast]
theorem VM_vb (e : Fp) : vb (VM e) = pP := by
  have h : val4I ((VM e).it 4) ((VM e).it 5) ((VM e).it 6) ((VM e).it 7) = (pP : Int) := by
    show val4I 4332616871279656263 10917124144477883021 13281191951274694749 3486998266802970665 = (pP : Int)
    kernel_rfl
  unfold vb
  rw [h]; simp
theorem VM_mi (e : Fp) : MI e (VM e) := by
  refine ⟨rfl, VM_ks e, by rw [VM_vb]; kernel_rfl, by rw [VM_va]; exact Nat.le_of_lt (mont_lt e), by rw [VM_vb]; exact Nat.le_refl _, fun h => ?_⟩
  refine ⟨by rw [VM_va, h, mont_zero], rfl, rfl, rfl, rfl, rfl⟩
abbrev noS : Nat → Nat → Prop := fun _ _ => False
/-- all of it up to the second loop's end -/
theorem head_ok {w0' : World} {b o b1 o1 : Nat} {e : Fp} {Q : Exit → Act → World → Prop}
    (hQ : ∀ V2 (X : Bs) a w, KsOK V2 16 kT → elF V2 0 = e → (e = 0 → V2.it 0 = 0 ∧ V2.it 1 = 0 ∧ V2.it 2 = 0 ∧ V2.it 3 = 0) → TOK V2 ((b1, o1) :: (b, o) :: X) 239 (mkT (zipT tsT shT)) a → Rep noS w0' V2 ((b1, o1) :: (b, o) :: X) ⟨memT, 0, 0, [], []⟩ w → wpL Tryz.prog Q (dropF 12 cL) a w)
    {V : VE FD} (hV : elF V 0 = e) {a : Act} {w : World} (hta : TOK V [(b1, o1), (b, o)] 239 (mkT [(0, .a (pz 1)), (1, .a (pz 0))]) a) (hrw : Rep noS w0' V [(b1, o1), (b, o)] ⟨[(false, w0 0), (false, [])], 0, 0, [], []⟩ w) : wpL Tryz.prog Q cL a w := by
  obtain ⟨V1, hag1, hp1⟩ := seg_runN C1_ok mixed callI_ok iP0 iP0_chk (ne := 1) (ni := 0) (ks := []) (by kernel_rfl) rfl (by kernel_rfl) noS w0' V trivial
  refine hp1 [(b1, o1), (b, o)] a w hta hrw Q ?_
  intro ex l hv X a1 w1 h1 h2
  have hee : ex = .normal := by
    unfold exV at hv
    simp only [SV.tup.injEq, List.cons.injEq, SA.c.injEq, SC.lit.injEq, Value.int.injEq, true_and] at hv
    exact (Ex.code_inj (Int.ofNat.inj hv.1)).symm
  subst hee
  unfold exV at hv
  simp only [SV.tup.injEq, List.cons.injEq, true_and] at hv
  subst hv
  have e1 : (V1.el 0 : Fp) = e := by rw [hag1.1 0 (by omega)]; exact hV
  show wpL Tryz.prog Q (dropF 9 cL) a1 w1
  have hw0 : ∀ (B : Bs) vs, LIs V1 B (w0 0) vs → LIs (VM e) B (w0 0) vs := by
    intro B vs h
    match vs, h with
    | [_, _, _, _], ⟨q0, q1, q2, q3, _⟩ =>
      refine ⟨?_, ?_, ?_, ?_, trivial⟩
      · show _ = Value.int .u64 (wordN (mont e) 0); rw [← e1]; exact q0
      · show _ = Value.int .u64 (wordN (mont e) 1); rw [← e1]; exact q1
      · show _ = Value.int .u64 (wordN (mont e) 2); rw [← e1]; exact q2
      · show _ = Value.int .u64 (wordN (mont e) 3); rw [← e1]; exact q3
  have hwa : ∀ (B : Bs) vs, LIs V1 B (w0 0) vs → LIs (VM e) B (cl 0) vs := by
    intro B vs h
    match vs, h with
    | [_, _, _, _], ⟨q0, q1, q2, q3, _⟩ =>
      refine ⟨?_, ?_, ?_, ?_, trivial⟩
      · show _ = Value.int .u64 (wordN (mont e) 0); rw [← e1]; exact q0
      · show _ = Value.int .u64 (wordN (mont e) 1); rw [← e1]; exact q1
      · show _ = Value.int .u64 (wordN (mont e) 2); rw [← e1]; exact q2
      · show _ = Value.int .u64 (wordN (mont e) 3); rw [← e1]; exact q3
  have h2' : RPM noS w0' (VM e) ([(b1, o1), (b, o)] ++ X) w1 := by
    refine h2.re (fun _ _ h => h) ⟨⟨rfl, hw0 _⟩, ⟨rfl, fun vs h => match vs, h with | [], _ => trivial⟩, ⟨rfl, hwa _⟩, ⟨rfl, fun vs h => ?_⟩, ⟨rfl, fun vs h => ?_⟩, ⟨rfl, fun vs h => ?_⟩, ⟨rfl, fun vs h => ?_⟩, trivial⟩ ?_
    · match vs, h with
      | [_, _, _, _], ⟨q0, q1, q2, q3, _⟩ => exact ⟨q0, q1, q2, q3, trivial⟩
    · match vs, h with
      | [_, _, _, _], ⟨q0, q1, q2, q3, _⟩ => exact ⟨q0, q1, q2, q3, trivial⟩
    · match vs, h with
      | [_, _, _, _], ⟨q0, q1, q2, q3, _⟩ => exact ⟨q0, q1, q2, q3, trivial⟩
    · match vs, h with
      | [_, _, _, _], ⟨q0, q1, q2, q3, _⟩ => exact ⟨q0, q1, q2, q3, trivial⟩
    · intro r cs b' o' i hm hB hi
      match r, hm with
      | 2, hm => simp only [memM, List.getElem?_cons_succ, List.getElem?_cons_zero, Option.some.injEq, Prod.mk.injEq, true_and] at hm; subst hm; exact h2.wr 2 _ b' o' i rfl hB hi
      | 3, hm => simp only [memM, List.getElem?_cons_succ, List.getElem?_cons_zero, Option.some.injEq, Prod.mk.injEq, true_and] at hm; subst hm; exact h2.wr 3 _ b' o' i rfl hB hi
      | 4, hm => simp only [memM, List.getElem?_cons_succ, List.getElem?_cons_zero, Option.some.injEq, Prod.mk.injEq, true_and] at hm; subst hm; exact h2.wr 4 _ b' o' i rfl hB hi
      | 5, hm => simp only [memM, List.getElem?_cons_succ, List.getElem?_cons_zero, Option.some.injEq, Prod.mk.injEq, true_and] at hm; subst hm; exact h2.wr 5 _ b' o' i rfl hB hi
      | 6, hm => simp only [memM, List.getElem?_cons_succ, List.getElem?_cons_zero, Option.some.injEq, Prod.mk.injEq, true_and] at hm; subst hm; exact h2.wr 6 _ b' o' i rfl hB hi
      | 0, hm => simp [memM] at hm
      | 1, hm => simp [memM] at hm
      | r + 7, hm => simp [memM] at hm
  have h1' : TKM (VM e) ([(b1, o1), (b, o)] ++ X) a1 := by
    refine h1.re (ts := tsM) (m := shM) ⟨fun u h => h, fun u h => h, fun u h => h, fun u h => h, fun u h => h, fun u h => h, fun u h => h, fun u h => h, fun u h => h, fun u h => h, fun u h => h, fun u h => h, fun u h => h, fun u h => h, trivial⟩
  refine wpL_head e9 (wp_block ?_)
  refine main_ok (S := noS) (w0 := w0') (B := [(b1, o1), (b, o)] ++ X) (e := e) ?_ (VM e) (VM_mi e) a1 w1 h1' h2'
  intro V2 a2 w2 hk2 el2 hz2 h3 h4
  show wpL Tryz.prog Q (dropF 10 cL) a2 w2
  obtain ⟨V3, hag3, hp3⟩ := seg_runN C1_ok mixed callI_ok iT1 iT1_chk (ks := kM) (by kernel_rfl) rfl (by kernel_rfl) noS w0' V2 hk2
  refine (iT1_res (hk2.of_agree hag3) hp3).go h3 h4 ?_
  intro V4 hel4 hk4 hs4 X2 a3 w3 h5 h6
  rw [e10]
  show wpL Tryz.prog Q (dropF 11 cL) a3 w3
  have hB : (([(b1, o1), (b, o)] ++ X) ++ X2).take 6 = (b1, o1) :: (b, o) :: ((X ++ X2).take 4) := rfl
  have hB' : (([(b1, o1), (b, o)] ++ X) ++ X2).take memT.length = (b1, o1) :: (b, o) :: ((X ++ X2).take 4) := rfl
  rw [hB'] at h5 h6
  generalize (X ++ X2).take 4 = X3 at *
  refine wpL_head e11 (wp_block ?_)
  have g3 : ∀ i, i < 27 → V3.it i = V2.it i := fun i hi => hag3.2 i hi
  refine loop_sx (T := mkT (zipT tsT shT)) (mem := memT) (S := noS) (w0 := w0') (N := 239) (B := (b1, o1) :: (b, o) :: X3) (I := fun V => KsOK V 16 kT ∧ elF V 0 = e ∧ (e = 0 → V.it 0 = 0 ∧ V.it 1 = 0 ∧ V.it 2 = 0 ∧ V.it 3 = 0)) (μ := fun V => (18 - V.it 4).toNat) ?_ V4 ⟨hk4, ?_, fun h => ?_⟩ a3 w3 h5 h6
  · rintro V5 ⟨hk5, el5, hz5⟩ R hnext hexit a4 w4 h7 h8
    refine wpL_code (show wpL Tryz.prog R cL4 a4 w4 from ?_)
    obtain ⟨V6, hag6, hp6⟩ := seg_runN C1_ok mixed callI_ok iL4 iL4_chk (ks := kT) (by kernel_rfl) rfl (by kernel_rfl) noS w0' V5 hk5
    have g6 : ∀ i, i < 16 → V6.it i = V5.it i := fun i hi => hag6.2 i hi
    rcases iL4_res (hk5.of_agree hag6) hp6 with ⟨hlt, hres⟩ | hres
    · refine hres.go' rfl h7 h8 ?_
      rintro V7 hel7 hk7 ⟨hi7, e', he', hz'⟩ a5 w5 h9 h10
      rw [e4l]
      refine hnext V7 ⟨hk7, ?_, fun h => ?_⟩ ?_ a5 w5 h9 h10
      · show V7.el 0 = e
        rw [hel7, hag6.1 0 (by omega)]; exact el5
      · obtain ⟨z0, z1, z2, z3⟩ := hz5 h
        have := hz' (by rw [g6 0 (by omega), z0]) (by rw [g6 1 (by omega), z1]) (by rw [g6 2 (by omega), z2]) (by rw [g6 3 (by omega), z3])
        subst this
        exact ⟨by rw [he' 0 (by omega)]; kernel_rfl, by rw [he' 1 (by omega)]; kernel_rfl, by rw [he' 2 (by omega)]; kernel_rfl, by rw [he' 3 (by omega)]; kernel_rfl⟩
      · show (18 - V7.it 4).toNat < (18 - V5.it 4).toNat
        rw [g6 4 (by omega)] at hi7 hlt
        rw [hi7]; omega
    · refine hres.go' rfl h7 h8 ?_
      intro V7 hel7 hk7 hs7 a5 w5 h9 h10
      refine hexit (.exit 4) a5 w5 (by simp) ?_
      show wpL Tryz.prog Q (dropF 12 cL) a5 w5
      refine hQ V7 X3 a5 w5 hk7 ?_ (fun h => ?_) h9 h10
      · show V7.el 0 = e
        rw [hel7, hag6.1 0 (by omega)]; exact el5
      · obtain ⟨z0, z1, z2, z3⟩ := hz5 h
        exact ⟨by rw [same_get hs7 rfl, g6 0 (by omega), z0], by rw [same_get hs7 rfl, g6 1 (by omega), z1], by rw [same_get hs7 rfl, g6 2 (by omega), z2], by rw [same_get hs7 rfl, g6 3 (by omega), z3]⟩
  · show V4.el 0 = e
    rw [hel4, hag3.1 0 (by omega)]; exact el2
  · obtain ⟨z0, z1, z2, z3⟩ := hz2 h
    have p0 := hs4 0 (by omega); have p1 := hs4 1 (by omega); have p2 := hs4 2 (by omega); have p3 := hs4 3 (by omega)
    simp only [Nat.add_zero, Nat.reduceAdd] at p0 p1 p2 p3
    exact ⟨by rw [p0, g3 12 (by omega), z0], by rw [p1, g3 13 (by omega), z1], by rw [p2, g3 14 (by omega), z2], by rw [p3, g3 15 (by omega), z3]⟩
/-! the inverse: its tail -/
def RInv (w0' : World) (b o : Nat) (e : Fp) (en : Ending) (w : World) : Prop := en = .returned (pt b o) ∧ Keeps (Rg b o 4) w0' w ∧ HasC w b o (words4 (D := FD) (fpUn 3 e))
theorem fin_ok {r : Nat} {w0' w : World} {b o : Nat} {e : Fp} {V : VE FD} {B : Bs} {mem : Mem} {cs : List SC} {a : Act} (hres : resList C1 (mkT (zipT [4] [pz r])) ⟨mem, 0, 0, [], []⟩ Tryz.f144.results.toList = some (.a (pz r))) (hB : B[r]? = some (b, o)) (hta : TOK V B 239 (mkT (zipT [4] [pz r])) a) (hrw : Rep (Rg b o 4) w0' V B ⟨mem, 0, 0, [], []⟩ w) (hm : mem[r]? = some (true, cs))
    (hcs : ∀ vs, LIs V B cs vs → vs = words4 (D := FD) (fpUn 3 e)) : bodyPost Tryz.prog Tryz.f144 (RInv w0' b o e) .ret a w := by
  obtain ⟨u, hu, hr⟩ := resList_sound C1_ok hres hta hrw
  obtain ⟨b', o', hb, rfl⟩ := hu
  rw [hB] at hb; simp only [Option.some.injEq, Prod.mk.injEq] at hb; obtain ⟨rfl, rfl⟩ := hb
  obtain ⟨vs, h1, h2⟩ := hrw.has r true cs b o hm hB
  have := hcs vs h1
  subst this
  have : a.defers = [] ∧ ∃ v, (results Tryz.f144 a.tmps).run Tryz.prog w = .ok v w ∧ RInv w0' b o e (.returned v) w := ⟨hta.defers, _, hr, rfl, hrw.keeps, h2⟩
  exact this
theorem w0_is {V : VE FD} {B : Bs} {k : Nat} {vs : List Value} (h : LIs V B (w0 k) vs) : vs = words4 (D := FD) (elF V k) := by
  match vs, h with
  | [_, _, _, _], ⟨q0, q1, q2, q3, _⟩ =>
    have q0 : _ = Value.int .u64 (FD.word (elF V k) 0) := q0
    have q1 : _ = Value.int .u64 (FD.word (elF V k) 1) := q1
    have q2 : _ = Value.int .u64 (FD.word (elF V k) 2) := q2
    have q3 : _ = Value.int .u64 (FD.word (elF V k) 3) := q3
    rw [q0, q1, q2, q3]; rfl
theorem cl_w0 {V V' : VE FD} {B : Bs} {k j : Nat} (h : ∀ i, i < 4 → V.it (k + i) = wordN (mont (elF V' j)) i) : ∀ vs, LIs V B (cl k) vs → LIs V' B (w0 j) vs := by
  intro vs hv
  match vs, hv with
  | [_, _, _, _], ⟨q0, q1, q2, q3, _⟩ =>
    have q0 : _ = Value.int .u64 (V.it k) := q0
    have q1 : _ = Value.int .u64 (V.it (k + 1)) := q1
    have q2 : _ = Value.int .u64 (V.it (k + 2)) := q2
    have q3 : _ = Value.int .u64 (V.it (k + 3)) := q3
    have h0 := h 0 (by omega)
    rw [Nat.add_zero] at h0
    rw [h0] at q0; rw [h 1 (by omega)] at q1; rw [h 2 (by omega)] at q2; rw [h 3 (by omega)] at q3
    exact ⟨q0, q1, q2, q3, trivial⟩
theorem w0_cl {V V' : VE FD} {B : Bs} {k j : Nat} (h : ∀ i, i < 4 → V'.it (k + i) = wordN (mont (elF V j)) i) : ∀ vs, LIs V B (w0 j) vs → LIs V' B (cl k) vs := by
  intro vs hv
  match vs, hv with
  | [_, _, _, _], ⟨q0, q1, q2, q3, _⟩ =>
    have h0 := h 0 (by omega)
    rw [Nat.add_zero] at h0
    refine ⟨?_, ?_, ?_, ?_, trivial⟩
    · show _ = Value.int .u64 (V'.it k); rw [h0]; exact q0
    · show _ = Value.int .u64 (V'.it (k + 1)); rw [h 1 (by omega)]; exact q1
    · show _ = Value.int .u64 (V'.it (k + 2)); rw [h 2 (by omega)]; exact q2
    · show _ = Value.int .u64 (V'.it (k + 3)); rw [h 3 (by omega)]; exact q3
theorem w0_w0 {V V' : VE FD} {B : Bs} {j k : Nat} (h : elF V' k = elF V j) : ∀ vs, LIs V B (w0 j) vs → LIs V' B (w0 k) vs := by
  intro vs hv
  match vs, hv with
  | [_, _, _, _], ⟨q0, q1, q2, q3, _⟩ =>
    refine ⟨?_, ?_, ?_, ?_, trivial⟩
    · show _ = Value.int .u64 (FD.word (elF V' k) 0); rw [h]; exact q0
    · show _ = Value.int .u64 (FD.word (elF V' k) 1); rw [h]; exact q1
    · show _ = Value.int .u64 (FD.word (elF V' k) 2); rw [h]; exact q2
    · show _ = Value.int .u64 (FD.word (elF V' k) 3); rw [h]; exact q3
theorem cl_cl {V V' : VE FD} {B : Bs} {k : Nat} (h : ∀ i, i < 4 → V'.it (k + i) = V.it (k + i)) : ∀ vs, LIs V B (cl k) vs → LIs V' B (cl k) vs := by
  intro vs hv
  match vs, hv with
  | [_, _, _, _], ⟨q0, q1, q2, q3, _⟩ =>
    have h0 := h 0 (by omega)
    rw [Nat.add_zero] at h0
    refine ⟨?_, ?_, ?_, ?_, trivial⟩
    · show _ = Value.int .u64 (V'.it k); rw [h0]; exact q0
    · show _ = Value.int .u64 (V'.it (k + 1)); rw [h 1 (by omega)]; exact q1
    · show _ = Value.int .u64 (V'.it (k + 2)); rw [h 2 (by omega)]; exact q2
    · show _ = Value.int .u64 (V'.it (k + 3)); rw [h 3 (by omega)]; exact q3
theorem one_one {V V' : VE FD} {B : Bs} : ∀ vs, LIs V B one4 vs → LIs V' B one4 vs := by
  intro vs hv
  match vs, hv with
  | [_, _, _, _], ⟨q0, q1, q2, q3, _⟩ => exact ⟨q0, q1, q2, q3, trivial⟩
theorem nil_nil {V V' : VE FD} {B : Bs} : ∀ vs, LIs V B [] vs → LIs V' B [] vs := by
  intro vs hv
  match vs, hv with
  | [], _ => trivial
theorem lits_lits {V V' : VE FD} {B : Bs} {p q r s : Value} : ∀ vs, LIs V B [.lit p, .lit q, .lit r, .lit s] vs → LIs V' B [.lit p, .lit q, .lit r, .lit s] vs := by
  intro vs hv
  match vs, hv with
  | [_, _, _, _], ⟨q0, q1, q2, q3, _⟩ => exact ⟨q0, q1, q2, q3, trivial⟩
/-- the names by which the tail's functions are called -/
def V4 (V : VE FD) (e e' : Fp) : VE FD := ⟨fun i => match i with | 1 => e' | _ => e, V.it⟩
def V5 (V : VE FD) (e e' v : Fp) : VE FD := ⟨fun _ => e, fun i => match i with
  | 0 => wordN (mont v) 0 | 1 => wordN (mont v) 1 | 2 => wordN (mont v) 2 | 3 => wordN (mont v) 3
  | 9 => wordN (mont e') 0 | 10 => wordN (mont e') 1 | 11 => wordN (mont e') 2 | 12 => wordN (mont e') 3 | i => V.it i⟩
theorem V5_it0 (V : VE FD) (e e' v : Fp) : ∀ i, i < 4 → (V5 V e e' v).it (0 + i) = wordN (mont v) i
  | 0, _ => rfl | 1, _ => rfl | 2, _ => rfl | 3, _ => rfl
theorem V5_it9 (V : VE FD) (e e' v : Fp) : ∀ i, i < 4 → (V5 V e e' v).it (9 + i) = wordN (mont e') i
  | 0, _ => rfl | 1, _ => rfl | 2, _ => rfl | 3, _ => rfl
theorem V5_it5 (V : VE FD) (e e' v : Fp) : ∀ i, i < 4 → (V5 V e e' v).it (5 + i) = V.it (5 + i)
  | 0, _ => rfl | 1, _ => rfl | 2, _ => rfl | 3, _ => rfl
theorem V5_ks {V : VE FD} {e e' v : Fp} (h : KsOK V 16 kT) : KsOK (V5 V e e' v) 16 kT := by
  obtain ⟨_, _, _, _, _, _, _, k8, k7, k6, k5, k4, _⟩ := h
  exact ⟨trivial, trivial, trivial, wordN_isW _ 3, wordN_isW _ 2, wordN_isW _ 1, wordN_isW _ 0, k8, k7, k6, k5, k4, wordN_isW _ 3, wordN_isW _ 2, wordN_isW _ 1, wordN_isW _ 0, trivial⟩
theorem inv_of {e e' : Fp} (h : (e * e' : Fp) = 1 ∨ e = 0) (hz : e = 0 → e' = 0) : e' = fpUn 3 e := by
  show e' = (if e = 0 then 0 else Fld.inv e)
  by_cases h0 : e = 0
  · rw [if_pos h0]; exact hz h0
  · rw [if_neg h0]
    rcases h with h | h
    · exact Fld.inv_unique (by rw [Fld.mul_comm]; exact h)
    · exact absurd h h0
noncomputable def eT : Unit := ()
theorem e14 : dropF 2 (dropF 12 cL) = dropF 14 cL := by kernel_rfl
theorem e16 : dropF 2 (dropF 14 cL) = dropF 16 cL := by kernel_rfl
theorem flagsA {m m' : Mem} (h : m.map (fun p => (p.1, p.2.length)) = m'.map (fun p => (p.1, p.2.length))) {S : Nat → Nat → Prop} {w0' w : World} {V : VE FD} {B : Bs} {ne ni : Nat} {tr : List TOp} {ds : List Bool} (hr : Rep S w0' V B ⟨m, ne, ni, tr, ds⟩ w) :
    ∀ (r : Nat) (cs : List SC) (b o i : Nat), m'[r]? = some (true, cs) → B[r]? = some (b, o) → i < cs.length → b < w0'.heap.size → S b (o + i) := by
  intro r cs b o i hm hB hi
  have h1 : (m.map (fun p => (p.1, p.2.length)))[r]? = some (true, cs.length) := by rw [h, List.getElem?_map, hm]; rfl
  rw [List.getElem?_map] at h1
  match hmr : m[r]?, h1 with
  | some (f, c), h1 =>
    simp only [Option.map_some, Option.some.injEq, Prod.mk.injEq] at h1
    obtain ⟨rfl, hl⟩ := h1
    exact hr.wr r c b o i hmr hB (by omega)
  | none, h1 => simp at h1
theorem tailA {w0' : World} {b o : Nat} {e : Fp} {B : Bs} (hB : B[0]? = some (b, o)) {V : VE FD} {a : Act} {w : World} (hk : KsOK V 16 kT) (he : elF V 0 = e) (hz : e = 0 → V.it 0 = 0 ∧ V.it 1 = 0 ∧ V.it 2 = 0 ∧ V.it 3 = 0)
    (seg2 : ∀ Q, (∀ (V2 : VE FD) a' w', elF V2 0 = e → KsOK V2 16 kT → (∃ e' : Fp, (∀ i, i < 4 → V2.it (9 + i) = wordN (mont e') i) ∧ (e = 0 → e' = 0)) → TOK V2 B 239 (mkT (zipT [0, 7, 15] [pz 0, pz 4, pz 5])) a' → Rep (Rg b o 4) w0' V2 B ⟨memA2, 0, 0, [], []⟩ w' → wpL Tryz.prog Q (dropF 14 cL) a' w') → wpL Tryz.prog Q (dropF 12 cL) a w) :
    wpL Tryz.prog (bodyPost Tryz.prog Tryz.f144 (RInv w0' b o e)) (dropF 12 cL) a w := by
  refine seg2 _ ?_
  rintro V2 a1 w1 hel2 hk2 ⟨e', hz9, hz'⟩ h1 h2
  have hel2 : elF V2 0 = elF (V4 V2 e e') 0 := hel2
  have h2 : Rep (Rg b o 4) w0' (V4 V2 e e') B ⟨((true, w0 1) :: (false, []) :: [(true, one4), (true, cl 5), (true, w0 0), (true, cl 0)] : Mem), 0, 0, [], []⟩ w1 := h2.re (fun _ _ h => h) ⟨⟨rfl, cl_w0 hz9⟩, ⟨rfl, nil_nil⟩, ⟨rfl, one_one⟩, ⟨rfl, cl_cl fun _ _ => rfl⟩, ⟨rfl, w0_w0 hel2.symm⟩, ⟨rfl, cl_cl fun _ _ => rfl⟩, trivial⟩ (flagsA (m := memA2) (m' := ((true, w0 1) :: (false, []) :: [(true, one4), (true, cl 5), (true, w0 0), (true, cl 0)] : Mem)) rfl h2)
  have h1 : TOK (V4 V2 e e') B 239 (mkT (zipT [0, 7, 15] [pz 0, pz 4, pz 5])) a1 := h1.re ⟨fun u h => h, fun u h => h, fun u h => h, trivial⟩
  obtain ⟨W, hag, hp⟩ := seg_runN C1_ok mixed callJ_ok iT4A iT4A_chk (ks := kT) (by kernel_rfl) rfl (by kernel_rfl) (Rg b o 4) w0' (V4 V2 e e') hk2
  have hel0 : elF W 0 = e := hag.1 0 (by omega)
  have hel1 : elF W 1 = e' := hag.1 1 (by omega)
  have hkW : KsOK W 16 kT := KsOK.of_agree (V := V4 V2 e e') hk2 hag
  obtain ⟨h3, hc⟩ := iT4A_val hp
  rw [hel0, hel1] at h3
  rw [h3, hel0] at hc
  -- the names of what follows
  have next : ∀ (bb : Bool) X a2 w2, TOK W (B ++ X) 239 (mkT (zipT [0, 7, 234] [pz 0, pz 4, .c (.lit (.bool bb))])) a2 → Rep (Rg b o 4) w0' W (B ++ X) ⟨memA4, 0, 0, [], []⟩ w2 →
      TOK (V5 W e e' (elF W 2)) (B ++ X) 239 (mkT (zipT [0, 7, 234] [pz 0, pz 4, .c (.lit (.bool bb))])) a2 ∧ Rep (Rg b o 4) w0' (V5 W e e' (elF W 2)) (B ++ X) ⟨((true, cl 9) :: (false, []) :: [(true, one4), (true, cl 5), (true, w0 0), (true, cl 0)] : Mem), 0, 0, [], []⟩ w2 := by
    intro bb X a2 w2 g1 g2
    have hel0 : elF W 0 = elF (V5 W e e' (elF W 2)) 0 := hel0
    exact ⟨g1.re ⟨fun u h => h, fun u h => h, fun u h => h, trivial⟩, g2.re (fun _ _ h => h) ⟨⟨rfl, w0_cl fun i hi => by rw [V5_it9 _ _ _ _ i hi, hel1]⟩, ⟨rfl, nil_nil⟩, ⟨rfl, one_one⟩, ⟨rfl, cl_cl (V5_it5 _ _ _ _)⟩, ⟨rfl, w0_w0 hel0.symm⟩, ⟨rfl, w0_cl (V5_it0 _ _ _ _)⟩, trivial⟩ (flagsA (m := memA4) (m' := ((true, cl 9) :: (false, []) :: [(true, one4), (true, cl 5), (true, w0 0), (true, cl 0)] : Mem)) rfl g2)⟩
  have nrm : ∀ {bb : Bool} {ex : Ex} {l : List SA}, exV .normal [pz 0, pz 4, .c (.lit (.bool bb))] = exV ex l → ex = .normal ∧ l = [pz 0, pz 4, .c (.lit (.bool bb))] := by
    intro bb ex l hv
    unfold exV at hv
    simp only [SV.tup.injEq, List.cons.injEq, SA.c.injEq, SC.lit.injEq, Value.int.injEq, true_and] at hv
    exact ⟨(Ex.code_inj (Int.ofNat.inj hv.1)).symm, hv.2.symm⟩
  have rt : ∀ {ex : Ex} {l : List SA}, exV .ret [pz 0] = exV ex l → ex = .ret ∧ l = [pz 0] := by
    intro ex l hv
    unfold exV at hv
    simp only [SV.tup.injEq, List.cons.injEq, SA.c.injEq, SC.lit.injEq, Value.int.injEq, true_and] at hv
    exact ⟨(Ex.code_inj (Int.ofNat.inj hv.1)).symm, hv.2.symm⟩
  rcases hc with ⟨hor, hK⟩ | ⟨hne, hK⟩
  · refine hK B a1 w1 h1 h2 _ ?_
    intro ex l hv X a2 w2 g1 g2
    obtain ⟨rfl, rfl⟩ := nrm hv
    show wpL Tryz.prog _ (dropF 2 (dropF 14 cL)) a2 w2
    rw [e16]
    obtain ⟨g1, g2⟩ := next false X a2 w2 g1 g2
    obtain ⟨U, hagU, hpU⟩ := seg_runN C1_ok mixed callJ_ok iT6A iT6A_chk (ks := kT) (by kernel_rfl) rfl (by kernel_rfl) (Rg b o 4) w0' (V5 W e e' (elF W 2)) (V5_ks hkW)
    refine hpU (B ++ X) a2 w2 g1 g2 _ ?_
    intro ex l hv X2 a3 w3 g3 g4
    obtain ⟨rfl, rfl⟩ := rt hv
    show bodyPost Tryz.prog Tryz.f144 (RInv w0' b o e) .ret a3 w3
    refine fin_ok (r := 0) (cs := cl 9) (by kernel_rfl) (bs_mono X2 (bs_mono X hB)) g3 g4 rfl ?_
    intro vs hvs
    have hv2 := w0_is (k := 0) (cl_w0 (V' := ⟨fun _ => e', fun _ => 0⟩) (j := 0) (fun i hi => by rw [hagU.2 (9 + i) (by omega)]; exact V5_it9 _ _ _ _ i hi) vs hvs)
    rw [hv2]
    have hii := inv_of (e := e) (e' := e') hor hz'
    show words4 (D := FD) e' = _
    rw [← hii]
  · refine hK B a1 w1 h1 h2 _ ?_
    intro ex l hv X a2 w2 g1 g2
    obtain ⟨rfl, rfl⟩ := nrm hv
    show wpL Tryz.prog _ (dropF 2 (dropF 14 cL)) a2 w2
    rw [e16]
    obtain ⟨g1, g2⟩ := next true X a2 w2 g1 g2
    obtain ⟨U, hagU, hpU⟩ := seg_runN C1_ok mixed callJ_ok iT5A iT5A_chk (ks := kT) (by kernel_rfl) rfl (by kernel_rfl) (Rg b o 4) w0' (V5 W e e' (elF W 2)) (V5_ks hkW)
    obtain ⟨m, hm, hKU, hval⟩ := pow_res iT5A_pow hpU
    refine hKU (B ++ X) a2 w2 g1 g2 _ ?_
    intro ex l hv X2 a3 w3 g3 g4
    obtain ⟨rfl, rfl⟩ := rt hv
    show bodyPost Tryz.prog Tryz.f144 (RInv w0' b o e) .ret a3 w3
    refine fin_ok (r := 0) (cs := w0 362) (by kernel_rfl) (bs_mono X2 (bs_mono X hB)) g3 g4 hm ?_
    intro vs hvs
    have hv2 := w0_is hvs
    rw [hv2, hval]
    have : elF U 0 = e := hagU.1 0 (by omega)
    rw [this]
theorem flagsB {m m' : Mem} (h : m.map (fun p => (p.1, p.2.length)) = m'.map (fun p => (p.1, p.2.length))) {S : Nat → Nat → Prop} {w0' w : World} {V : VE FD} {B : Bs} {ne ni : Nat} {tr : List TOp} {ds : List Bool} (hr : Rep S w0' V B ⟨m, ne, ni, tr, ds⟩ w) :
    ∀ (r : Nat) (cs : List SC) (b o i : Nat), m'[r]? = some (true, cs) → B[r]? = some (b, o) → i < cs.length → b < w0'.heap.size → S b (o + i) := by
  intro r cs b o i hm hB hi
  have h1 : (m.map (fun p => (p.1, p.2.length)))[r]? = some (true, cs.length) := by rw [h, List.getElem?_map, hm]; rfl
  rw [List.getElem?_map] at h1
  match hmr : m[r]?, h1 with
  | some (f, c), h1 =>
    simp only [Option.map_some, Option.some.injEq, Prod.mk.injEq] at h1
    obtain ⟨rfl, hl⟩ := h1
    exact hr.wr r c b o i hmr hB (by omega)
  | none, h1 => simp at h1
theorem tailB {w0' : World} {b o : Nat} {e : Fp} {B : Bs} (hB : B[6]? = some (b, o)) {V : VE FD} {a : Act} {w : World} (hk : KsOK V 16 kT) (he : elF V 0 = e) (hz : e = 0 → V.it 0 = 0 ∧ V.it 1 = 0 ∧ V.it 2 = 0 ∧ V.it 3 = 0)
    (seg2 : ∀ Q, (∀ (V2 : VE FD) a' w', elF V2 0 = e → KsOK V2 16 kT → (∃ e' : Fp, (∀ i, i < 4 → V2.it (9 + i) = wordN (mont e') i) ∧ (e = 0 → e' = 0)) → TOK V2 B 239 (mkT (zipT [0, 7, 15] [pz 6, pz 4, pz 5])) a' → Rep (Rg b o 4) w0' V2 B ⟨memB2, 0, 0, [], []⟩ w' → wpL Tryz.prog Q (dropF 14 cL) a' w') → wpL Tryz.prog Q (dropF 12 cL) a w) :
    wpL Tryz.prog (bodyPost Tryz.prog Tryz.f144 (RInv w0' b o e)) (dropF 12 cL) a w := by
  refine seg2 _ ?_
  rintro V2 a1 w1 hel2 hk2 ⟨e', hz9, hz'⟩ h1 h2
  have hel2 : elF V2 0 = elF (V4 V2 e e') 0 := hel2
  have h2 : Rep (Rg b o 4) w0' (V4 V2 e e') B ⟨((false, w0 0) :: (false, []) :: [(true, one4), (true, cl 5), (true, w0 0), (true, cl 0)] ++ [(true, w0 1)] : Mem), 0, 0, [], []⟩ w1 := h2.re (fun _ _ h => h) ⟨⟨rfl, w0_w0 hel2.symm⟩, ⟨rfl, nil_nil⟩, ⟨rfl, one_one⟩, ⟨rfl, cl_cl fun _ _ => rfl⟩, ⟨rfl, w0_w0 hel2.symm⟩, ⟨rfl, cl_cl fun _ _ => rfl⟩, ⟨rfl, cl_w0 hz9⟩, trivial⟩ (flagsB (m := memB2) (m' := ((false, w0 0) :: (false, []) :: [(true, one4), (true, cl 5), (true, w0 0), (true, cl 0)] ++ [(true, w0 1)] : Mem)) rfl h2)
  have h1 : TOK (V4 V2 e e') B 239 (mkT (zipT [0, 7, 15] [pz 6, pz 4, pz 5])) a1 := h1.re ⟨fun u h => h, fun u h => h, fun u h => h, trivial⟩
  obtain ⟨W, hag, hp⟩ := seg_runN C1_ok mixed callJ_ok iT4B iT4B_chk (ks := kT) (by kernel_rfl) rfl (by kernel_rfl) (Rg b o 4) w0' (V4 V2 e e') hk2
  have hel0 : elF W 0 = e := hag.1 0 (by omega)
  have hel1 : elF W 1 = e' := hag.1 1 (by omega)
  have hkW : KsOK W 16 kT := KsOK.of_agree (V := V4 V2 e e') hk2 hag
  obtain ⟨h3, hc⟩ := iT4B_val hp
  rw [hel0, hel1] at h3
  rw [h3, hel0] at hc
  -- the names of what follows
  have next : ∀ (bb : Bool) X a2 w2, TOK W (B ++ X) 239 (mkT (zipT [0, 7, 234] [pz 6, pz 4, .c (.lit (.bool bb))])) a2 → Rep (Rg b o 4) w0' W (B ++ X) ⟨memB4, 0, 0, [], []⟩ w2 →
      TOK (V5 W e e' (elF W 2)) (B ++ X) 239 (mkT (zipT [0, 7, 234] [pz 6, pz 4, .c (.lit (.bool bb))])) a2 ∧ Rep (Rg b o 4) w0' (V5 W e e' (elF W 2)) (B ++ X) ⟨((false, w0 0) :: (false, []) :: [(true, one4), (true, cl 5), (true, w0 0), (true, cl 0)] ++ [(true, cl 9)] : Mem), 0, 0, [], []⟩ w2 := by
    intro bb X a2 w2 g1 g2
    have hel0 : elF W 0 = elF (V5 W e e' (elF W 2)) 0 := hel0
    exact ⟨g1.re ⟨fun u h => h, fun u h => h, fun u h => h, trivial⟩, g2.re (fun _ _ h => h) ⟨⟨rfl, w0_w0 hel0.symm⟩, ⟨rfl, nil_nil⟩, ⟨rfl, one_one⟩, ⟨rfl, cl_cl (V5_it5 _ _ _ _)⟩, ⟨rfl, w0_w0 hel0.symm⟩, ⟨rfl, w0_cl (V5_it0 _ _ _ _)⟩, ⟨rfl, w0_cl fun i hi => by rw [V5_it9 _ _ _ _ i hi, hel1]⟩, trivial⟩ (flagsB (m := memB4) (m' := ((false, w0 0) :: (false, []) :: [(true, one4), (true, cl 5), (true, w0 0), (true, cl 0)] ++ [(true, cl 9)] : Mem)) rfl g2)⟩
  have nrm : ∀ {bb : Bool} {ex : Ex} {l : List SA}, exV .normal [pz 6, pz 4, .c (.lit (.bool bb))] = exV ex l → ex = .normal ∧ l = [pz 6, pz 4, .c (.lit (.bool bb))] := by
    intro bb ex l hv
    unfold exV at hv
    simp only [SV.tup.injEq, List.cons.injEq, SA.c.injEq, SC.lit.injEq, Value.int.injEq, true_and] at hv
    exact ⟨(Ex.code_inj (Int.ofNat.inj hv.1)).symm, hv.2.symm⟩
  have rt : ∀ {ex : Ex} {l : List SA}, exV .ret [pz 6] = exV ex l → ex = .ret ∧ l = [pz 6] := by
    intro ex l hv
    unfold exV at hv
    simp only [SV.tup.injEq, List.cons.injEq, SA.c.injEq, SC.lit.injEq, Value.int.injEq, true_and] at hv
    exact ⟨(Ex.code_inj (Int.ofNat.inj hv.1)).symm, hv.2.symm⟩
  rcases hc with ⟨hor, hK⟩ | ⟨hne, hK⟩
  · refine hK B a1 w1 h1 h2 _ ?_
    intro ex l hv X a2 w2 g1 g2
    obtain ⟨rfl, rfl⟩ := nrm hv
    show wpL Tryz.prog _ (dropF 2 (dropF 14 cL)) a2 w2
    rw [e16]
    obtain ⟨g1, g2⟩ := next false X a2 w2 g1 g2
    obtain ⟨U, hagU, hpU⟩ := seg_runN C1_ok mixed callJ_ok iT6B iT6B_chk (ks := kT) (by kernel_rfl) rfl (by kernel_rfl) (Rg b o 4) w0' (V5 W e e' (elF W 2)) (V5_ks hkW)
    refine hpU (B ++ X) a2 w2 g1 g2 _ ?_
    intro ex l hv X2 a3 w3 g3 g4
    obtain ⟨rfl, rfl⟩ := rt hv
    show bodyPost Tryz.prog Tryz.f144 (RInv w0' b o e) .ret a3 w3
    refine fin_ok (r := 6) (cs := cl 9) (by kernel_rfl) (bs_mono X2 (bs_mono X hB)) g3 g4 rfl ?_
    intro vs hvs
    have hv2 := w0_is (k := 0) (cl_w0 (V' := ⟨fun _ => e', fun _ => 0⟩) (j := 0) (fun i hi => by rw [hagU.2 (9 + i) (by omega)]; exact V5_it9 _ _ _ _ i hi) vs hvs)
    rw [hv2]
    have hii := inv_of (e := e) (e' := e') hor hz'
    show words4 (D := FD) e' = _
    rw [← hii]
  · refine hK B a1 w1 h1 h2 _ ?_
    intro ex l hv X a2 w2 g1 g2
    obtain ⟨rfl, rfl⟩ := nrm hv
    show wpL Tryz.prog _ (dropF 2 (dropF 14 cL)) a2 w2
    rw [e16]
    obtain ⟨g1, g2⟩ := next true X a2 w2 g1 g2
    obtain ⟨U, hagU, hpU⟩ := seg_runN C1_ok mixed callJ_ok iT5B iT5B_chk (ks := kT) (by kernel_rfl) rfl (by kernel_rfl) (Rg b o 4) w0' (V5 W e e' (elF W 2)) (V5_ks hkW)
    obtain ⟨m, hm, hKU, hval⟩ := pow_res iT5B_pow hpU
    refine hKU (B ++ X) a2 w2 g1 g2 _ ?_
    intro ex l hv X2 a3 w3 g3 g4
    obtain ⟨rfl, rfl⟩ := rt hv
    show bodyPost Tryz.prog Tryz.f144 (RInv w0' b o e) .ret a3 w3
    refine fin_ok (r := 6) (cs := w0 362) (by kernel_rfl) (bs_mono X2 (bs_mono X hB)) g3 g4 hm ?_
    intro vs hvs
    have hv2 := w0_is hvs
    rw [hv2, hval]
    have : elF U 0 = e := hagU.1 0 (by omega)
    rw [this]
end Go.Proofs.YtnmkmbjbaagojaaGreatDoor
