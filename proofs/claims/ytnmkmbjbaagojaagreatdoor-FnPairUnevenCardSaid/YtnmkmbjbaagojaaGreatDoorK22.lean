/- A part of the proof of laws.FnPairUneven. -/
import Derived.Test.YtnmkmbjbaagojaaGreatDoorK17
import Derived.KernelRfl
import Derived.Test.YtnmkmbjbaagojaaGreatDoorK19
import Derived.Test.YtnmkmbjbaagojaaGreatDoorK15
import Derived.Test.YtnmkmbjbaagojaaGreatDoorK14
import Derived.Test.YtnmkmbjbaagojaaGreatDoorK12
namespace Go.Proofs.YtnmkmbjbaagojaaGreatDoor
open Go
set_option maxRecDepth 100000
set_option linter.unusedVariables false
set_option linter.unusedSimpArgs false
/-! from a piece's leaves to a shape, with the numbers' kinds -/
def svTail : SV → List SA
  | .tup (_ :: l) => l
  | _ => []
def cellPair : SC → SC → List (Nat × IE)
  | .iv _ j, .iv _ i => [(i, .var j)]
  | .lit (.int _ z), .iv _ i => [(i, .lit z)]
  | _, _ => []
def cellsPair : List SC → List SC → List (Nat × IE)
  | x :: l, y :: r => cellPair x y ++ cellsPair l r
  | _, _ => []
def sasPair : List SA → List SA → List (Nat × IE)
  | .c x :: l, .c y :: r => cellPair x y ++ sasPair l r
  | _ :: l, _ :: r => sasPair l r
  | _, _ => []
def memPair : Mem → Mem → List (Nat × IE)
  | (_, x) :: l, (_, y) :: r => cellsPair x y ++ memPair l r
  | _, _ => []
def lkI (ps : List (Nat × IE)) (i : Nat) : IE := match lk ps i with
  | some x => x
  | none => .lit 0
def mkSig : Nat → List (Nat × IE) → List IE → List IE
  | 0, _, r => r
  | n + 1, ps, r => mkSig n ps (lkI ps n :: r)
def sigI (n : Nat) (m : Mem) (v : SV) (sh : List SA) (mem : Mem) : List IE := mkSig n (sasPair (svTail v) sh ++ memPair m mem) []
def kSub (k' k : Nat) : Bool := match k with
  | 0 => true
  | 1 => wK k'
  | 4 => iK k'
  | _ => false
def kindsOk (ni : Nat) (ks : List Nat) (σ : List IE) : Nat → List Nat → Bool
  | 0, [] => true
  | n + 1, k :: r => (match nth σ n with
    | some x => match kI ni ks x with
      | some k' => kSub k' k
      | none => Nat.beq k 0
    | none => Nat.beq k 0) && kindsOk ni ks σ n r
  | _, _ => false
def sameOk (σ : List IE) (i : Nat) : Bool := match nth σ i with
  | some (.var j) => Nat.beq i j
  | _ => false
structure Good (V : VE FD) (n : Nat) (sh : List SA) (mem : Mem) (req same : List Nat) (m : Mem) (v : SV) : Prop where
  conv : sasConv [.var 0] (sigI n m v sh mem) mem.length (svTail v) sh = true
  mconv : memConv [.var 0] (sigI n m v sh mem) mem.length m mem = true
  kinds : KsOK (subV V [.var 0] (sigI n m v sh mem)) n req
  same : ∀ i ∈ same, (subV V [.var 0] (sigI n m v sh mem)).it i = V.it i
def goodOk (n : Nat) (sh : List SA) (mem : Mem) (req same : List Nat) (ni : Nat) (ks : List Nat) (m : Mem) (v : SV) : Bool :=
  match sigI n m v sh mem with
  | σ => sasConv [.var 0] σ mem.length (svTail v) sh && (memConv [.var 0] σ mem.length m mem && (kindsOk ni ks σ n req && same.all (sameOk σ)))
theorem subV_it {V : VE FD} {σe : List FE} {σi : List IE} {i : Nat} {x : IE} (h : nth σi i = some x) : (subV V σe σi).it i = x.den V := by
  unfold subV
  show (match nth σi i with | some x => x.den V | none => 0) = _
  rw [h]
theorem subV_none {V : VE FD} {σe : List FE} {σi : List IE} {i : Nat} (h : nth σi i = none) : (subV V σe σi).it i = 0 := by
  unfold subV
  show (match nth σi i with | some x => x.den V | none => 0) = _
  rw [h]
theorem kSub_ok {k' k : Nat} {x : Int} (h : kSub k' k = true) (hx : kOK k' x) : kOK k x := by
  unfold kSub at h
  split at h
  · trivial
  · exact kOK_word hx h
  · exact kOK_int hx h
  · simp at h
theorem kindsOk_ok {V : VE FD} {ni : Nat} {ks : List Nat} (hk : KsOK V ni ks) {σe : List FE} {σ : List IE} : ∀ {n : Nat} {req : List Nat}, kindsOk ni ks σ n req = true → KsOK (subV V σe σ) n req
  | 0, [], _ => trivial
  | n + 1, k :: r, h => by
    simp only [kindsOk, Bool.and_eq_true] at h
    refine ⟨?_, kindsOk_ok hk h.2⟩
    have h1 := h.1
    split at h1
    · rename_i x hx
      rw [subV_it hx]
      split at h1
      · rename_i k' hk'
        exact kSub_ok h1 (kI_ok hk hk')
      · have := Nat.eq_of_beq_eq_true h1
        subst this; trivial
    · have := Nat.eq_of_beq_eq_true h1
      subst this; trivial
  | 0, _ :: _, h => by simp [kindsOk] at h
  | _ + 1, [], h => by simp [kindsOk] at h
theorem goodOk_ok {n : Nat} {sh : List SA} {mem : Mem} {req same : List Nat} {ni : Nat} {ks : List Nat} {m : Mem} {v : SV} (h : goodOk n sh mem req same ni ks m v = true) {V : VE FD} (hk : KsOK V ni ks) : Good V n sh mem req same m v := by
  unfold goodOk at h
  simp only [Bool.and_eq_true] at h
  obtain ⟨h1, h2, h3, h4⟩ := h
  refine ⟨h1, h2, kindsOk_ok hk h3, fun i hi => ?_⟩
  have := List.all_eq_true.1 h4 i hi
  unfold sameOk at this
  split at this
  · rename_i j hj
    have := Nat.eq_of_beq_eq_true this
    subst this
    rw [subV_it hj]; rfl
  · simp at this
/-- what the rows that hold say of the numbers' kinds -/
theorem rowK_holds {ne ni : Nat} {ks : List Nat} {o : TOp} {ne' ni' : Nat} {ks' : List Nat} (h : rowK ne ni ks o = some (ne', ni', ks')) {V : VE FD} (hk : KsOK V ni ks) (ho : o.holds V) : KsOK V ni' ks' := by
  unfold rowK at h
  split at h
  · split at h
    · simp only [Option.some.injEq, Prod.mk.injEq] at h; obtain ⟨_, rfl, rfl⟩ := h; exact hk
    · simp at h
  · split at h
    · simp only [Option.some.injEq, Prod.mk.injEq] at h; obtain ⟨_, rfl, rfl⟩ := h; exact hk
    · simp at h
  · rename_i i n k xs
    split at h
    · rename_i l hi hl
      have hi := Nat.eq_of_beq_eq_true hi
      subst hi
      split at h
      · rename_i rs hp
        split at h
        · rename_i hn
          have hn := Nat.eq_of_beq_eq_true hn
          simp only [Option.some.injEq, Prod.mk.injEq] at h; obtain ⟨_, rfl, rfl⟩ := h
          have h1 := (pfK_ok hp (kIs_ok hk hl)).2
          have h2 : (List.range n).map (fun j => V.it (i + j)) = pfF k (xs.map (·.den V)) := ho.2
          rw [← h2] at h1
          rw [hn]
          refine KsOK.app hk h1 ?_
          intro j hj
          rw [hn, List.getD_eq_getElem?_getD, List.getElem?_map, List.getElem?_range hj]
          rfl
        · simp at h
      · simp at h
    · simp at h
  · rename_i i op k x y
    split at h
    · rename_i a hc ha
      simp only [Bool.and_eq_true] at hc
      have hi := Nat.eq_of_beq_eq_true hc.1
      subst hi
      simp only [Option.some.injEq, Prod.mk.injEq] at h; obtain ⟨_, rfl, rfl⟩ := h
      refine ⟨?_, hk⟩
      have h1 : V.it i = ibinF op k (x.den V) (y.den V) := ho
      rw [h1]
      exact ibK_ok op k a _ _ (kI_ok hk ha)
    · simp at h
  · split at h
    · simp only [Option.some.injEq, Prod.mk.injEq] at h; obtain ⟨_, rfl, rfl⟩ := h; exact hk
    · simp at h
  · simp at h
def PT.allK (f : Nat → List Nat → Mem → SV → Bool) : Nat → Nat → List Nat → PT → Bool
  | _, ni, ks, .done m _ _ v => f ni ks m v
  | ne, ni, ks, .row o r => match rowK ne ni ks o with
    | some (a, b, c) => PT.allK f a b c r
    | none => false
  | ne, ni, ks, .test _ y n => PT.allK f ne ni ks y && PT.allK f ne ni ks n
  | _, _, _, .stop => true
theorem PT.allK_ok {f : Nat → List Nat → Mem → SV → Bool} {V : VE FD} {K : Mem → SV → Prop} {R : Mem → SV → Prop} (hf : ∀ ni ks m v, f ni ks m v = true → KsOK V ni ks → R m v) :
    ∀ {t : PT} {ne ni : Nat} {ks : List Nat}, PT.allK f ne ni ks t = true → KsOK V ni ks → t.post V K → t.post V (fun m v => K m v ∧ R m v)
  | .done _ _ _ _, _, _, _, h, hk, hp => ⟨hp, hf _ _ _ _ h hk⟩
  | .row o r, ne, ni, ks, h, hk, hp => by
    simp only [PT.allK] at h
    split at h
    · rename_i he
      exact ⟨hp.1, PT.allK_ok hf h (rowK_holds he hk hp.1) hp.2⟩
    · simp at h
  | .test o y n, ne, ni, ks, h, hk, hp => by
    simp only [PT.allK, Bool.and_eq_true] at h
    rcases hp with ⟨h1, h2⟩ | ⟨h1, h2⟩
    · exact .inl ⟨h1, PT.allK_ok hf h.1 hk h2⟩
    · exact .inr ⟨h1, PT.allK_ok hf h.2 hk h2⟩
  | .stop, _, _, _, _, _, _ => trivial
/-- a tree whose leaves all fit a shape -/
theorem post_good {t : PT} {n : Nat} {sh : List SA} {mem : Mem} {req same : List Nat} {ne ni : Nat} {ks : List Nat} {V : VE FD} {K : Mem → SV → Prop} (h : t.allK (goodOk n sh mem req same) ne ni ks = true) (hk : KsOK V ni ks) (hp : t.post V K) :
    t.post V (fun m v => K m v ∧ Good V n sh mem req same m v) := PT.allK_ok (R := fun m v => Good V n sh mem req same m v) (fun _ _ _ _ h hk => goodOk_ok h hk) h hk hp
section
variable {P : Program}
theorem SegN.go {S : Nat → Nat → Prop} {w0 : World} {N n : Nat} {c : List Code} {T0 : List (Nat × SV)} {ts : Nat → List Nat} {mem : Mem} {V V' : VE FD} {mem' : Mem} {v : SV} (h : SegN P S w0 N n c T0 ts mem V V' mem' v)
    {ex : Ex} {l : List SA} (hv : v = exV ex l) {nn : Nat} {sh : List SA} {mem2 : Mem} {req same : List Nat} (hg : Good V' nn sh mem2 req same mem' v) {B : Bs} {a : Act} {w : World} (ha : TOK V B N (mkT T0) a) (hw : Rep S w0 V B ⟨mem, 0, 0, [], []⟩ w) {Q : Exit → Act → World → Prop}
    (hQ : ∀ (X : Bs) (a' : Act) (w' : World), TOK (subV V' [.var 0] (sigI nn mem' v sh mem2)) ((B ++ X).take mem2.length) N (mkT (zipT (ts ex.code) sh)) a' → Rep S w0 (subV V' [.var 0] (sigI nn mem' v sh mem2)) ((B ++ X).take mem2.length) ⟨mem2, 0, 0, [], []⟩ w' → Exit.then (wpL P Q (dropF n c)) Q ex.of a' w') : wpL P Q c a w := by
  refine h B a w ha hw Q ?_
  intro ex' l' hv' X a' w' h1 h2
  have hee : ex' = ex ∧ l' = l := by
    rw [hv] at hv'
    unfold exV at hv'
    simp only [SV.tup.injEq, List.cons.injEq, SA.c.injEq, SC.lit.injEq, Value.int.injEq, true_and] at hv'
    exact ⟨(Ex.code_inj (Int.ofNat.inj hv'.1)).symm, hv'.2.symm⟩
  obtain ⟨rfl, rfl⟩ := hee
  have hl : svTail v = l' := by rw [hv]; rfl
  have hc := hg.conv
  rw [hl] at hc
  exact hQ X a' w' (zipT_conv hc h1) (h2.conv rfl hg.mconv 0 0 [] [])
/-- where no region is new or dropped -/
theorem SegN.go' {S : Nat → Nat → Prop} {w0 : World} {N n : Nat} {c : List Code} {T0 : List (Nat × SV)} {ts : Nat → List Nat} {mem : Mem} {V V' : VE FD} {mem' : Mem} {v : SV} (h : SegN P S w0 N n c T0 ts mem V V' mem' v)
    {ex : Ex} {l : List SA} (hv : v = exV ex l) {nn : Nat} {sh : List SA} {mem2 : Mem} {req same : List Nat} (hg : Good V' nn sh mem2 req same mem' v) (hlen : mem2.length = mem.length) {B : Bs} {a : Act} {w : World} (ha : TOK V B N (mkT T0) a) (hw : Rep S w0 V B ⟨mem, 0, 0, [], []⟩ w) {Q : Exit → Act → World → Prop}
    (hQ : ∀ (a' : Act) (w' : World), TOK (subV V' [.var 0] (sigI nn mem' v sh mem2)) B N (mkT (zipT (ts ex.code) sh)) a' → Rep S w0 (subV V' [.var 0] (sigI nn mem' v sh mem2)) B ⟨mem2, 0, 0, [], []⟩ w' → Exit.then (wpL P Q (dropF n c)) Q ex.of a' w') : wpL P Q c a w := by
  refine h.go hv hg ha hw ?_
  intro X a' w' h1 h2
  have hB : (B ++ X).take mem2.length = B := by
    have : B.length = mem.length := hw.len
    rw [hlen, ← this, List.take_left]
  rw [hB] at h1 h2
  exact hQ a' w' h1 h2
end
/-- the inner loop's state: two words, and the factors by which they come of the first ones -/
structure In where
  a : Nat
  b : Nat
  f0 : Int
  g0 : Int
  f1 : Int
  g1 : Int
def In.step (s : In) : In :=
  if s.a % 2 = 0 then ⟨s.a / 2, s.b, s.f0, s.g0, 2 * s.f1, 2 * s.g1⟩
  else if s.a < s.b then ⟨(s.b - s.a) / 2, s.a, s.f1 - s.f0, s.g1 - s.g0, 2 * s.f0, 2 * s.g0⟩
  else ⟨(s.a - s.b) / 2, s.b, s.f0 - s.f1, s.g0 - s.g1, 2 * s.f1, 2 * s.g1⟩
def In.run : Nat → In → In
  | 0, s => s
  | n + 1, s => (In.run n s).step
def In.start (a b : Nat) : In := ⟨a, b, 1, 0, 0, 1⟩
/-- the factors' bounds after j steps -/
structure In.Bd (j : Nat) (s : In) : Prop where
  f0l : -(2 ^ j : Int) < s.f0
  f0h : s.f0 ≤ 2 ^ j
  g0l : -(2 ^ j : Int) < s.g0
  g0h : s.g0 ≤ 2 ^ j
  f1l : -(2 ^ j : Int) < s.f1
  f1h : s.f1 ≤ 2 ^ j
  g1l : -(2 ^ j : Int) < s.g1
  g1h : s.g1 ≤ 2 ^ j
  s0 : s.f0.natAbs + s.g0.natAbs ≤ 2 ^ j
  s1 : s.f1.natAbs + s.g1.natAbs ≤ 2 ^ j
theorem In.bd_step {j : Nat} {s : In} (h : s.Bd j) : s.step.Bd (j + 1) := by
  obtain ⟨h1, h2, h3, h4, h5, h6, h7, h8, h9, h10⟩ := h
  have e : (2 ^ (j + 1) : Int) = 2 * 2 ^ j := by rw [Int.pow_succ]; omega
  have e' : (2 ^ (j + 1) : Nat) = 2 * 2 ^ j := by rw [Nat.pow_succ]; omega
  have hp : (0 : Int) < 2 ^ j := Int.pow_pos (by decide)
  unfold In.step
  split
  · constructor <;> simp only [e, e'] <;> omega
  · split
    · constructor <;> simp only [e, e'] <;> omega
    · constructor <;> simp only [e, e'] <;> omega
theorem In.bd_run (a b : Nat) : ∀ j, (In.run j (In.start a b)).Bd j
  | 0 => by constructor <;> simp [In.run, In.start]
  | j + 1 => In.bd_step (In.bd_run a b j)
/-- beside the words two integers go the same way: what both are -/
structure In.Tr (N j : Nat) (x y : Int) (s : In) (X Y : Int) : Prop where
  eX : 2 ^ j * X = s.f0 * x + s.g0 * y
  eY : 2 ^ j * Y = s.f1 * x + s.g1 * y
  mX : (2 ^ (N - j) : Int) ∣ X - s.a
  mY : (2 ^ (N - j) : Int) ∣ Y - s.b
  ob : s.b % 2 = 1
  oY : Y % 2 = 1
theorem dvd_half {m : Nat} {z : Int} (h : (2 ^ (m + 1) : Int) ∣ 2 * z) : (2 ^ m : Int) ∣ z := by
  obtain ⟨k, hk⟩ := h
  refine ⟨k, ?_⟩
  have : (2 ^ (m + 1) : Int) = 2 * 2 ^ m := by rw [Int.pow_succ, Int.mul_comm]
  rw [this, Int.mul_assoc] at hk
  omega
theorem dvd_less {m n : Nat} {z : Int} (hle : m ≤ n) (h : (2 ^ n : Int) ∣ z) : (2 ^ m : Int) ∣ z := by
  obtain ⟨k, rfl⟩ := Nat.exists_eq_add_of_le hle
  rw [Int.pow_add] at h
  exact Int.dvd_trans (Int.dvd_mul_right _ _) h
theorem dvd_two {m : Nat} {z : Int} (hm : 0 < m) (h : (2 ^ m : Int) ∣ z) : z % 2 = 0 := by
  have : (2 ^ 1 : Int) ∣ z := dvd_less hm h
  rw [Int.pow_one] at this
  exact Int.emod_eq_zero_of_dvd this
theorem In.tr_step {N j : Nat} {x y : Int} {s : In} {X Y : Int} (hj : j < N) (h : s.Tr N j x y X Y) : ∃ X' Y', s.step.Tr N (j + 1) x y X' Y' := by
  obtain ⟨eX, eY, mX, mY, ob, oY⟩ := h
  have hN : N - j = (N - (j + 1)) + 1 := by omega
  have pX := dvd_two (by omega) mX
  have e : ∀ z : Int, 2 ^ (j + 1) * z = 2 ^ j * (2 * z) := fun z => by rw [Int.pow_succ, Int.mul_assoc]
  unfold In.step
  split
  · rename_i h0
    obtain ⟨Z, rfl⟩ : ∃ Z, X = 2 * Z := ⟨X / 2, by omega⟩
    refine ⟨Z, Y, ?_, ?_, ?_, ?_, ob, oY⟩
    · rw [e]; exact eX
    · rw [e, Int.mul_left_comm, eY, Int.mul_add, Int.mul_assoc, Int.mul_assoc]
    · apply dvd_half
      rw [← hN]
      show _ ∣ 2 * (Z - ((s.a / 2 : Nat) : Int))
      rw [show 2 * (Z - ((s.a / 2 : Nat) : Int)) = 2 * Z - s.a by omega]
      exact mX
    · exact dvd_less (by omega) mY
  · rename_i h0
    split
    · rename_i hlt
      obtain ⟨Z, hZ⟩ : ∃ Z, Y - X = 2 * Z := ⟨(Y - X) / 2, by omega⟩
      refine ⟨Z, X, ?_, ?_, ?_, ?_, by show s.a % 2 = 1; omega, by omega⟩
      · rw [e, ← hZ, Int.mul_sub, eX, eY, Int.sub_mul, Int.sub_mul]; omega
      · rw [e, Int.mul_left_comm, eX, Int.mul_add, Int.mul_assoc, Int.mul_assoc]
      · apply dvd_half
        rw [← hN]
        show _ ∣ 2 * (Z - (((s.b - s.a) / 2 : Nat) : Int))
        rw [show 2 * (Z - (((s.b - s.a) / 2 : Nat) : Int)) = (Y - s.b) - (X - s.a) by omega]
        exact Int.dvd_sub mY mX
      · exact dvd_less (by omega) mX
    · rename_i hlt
      obtain ⟨Z, hZ⟩ : ∃ Z, X - Y = 2 * Z := ⟨(X - Y) / 2, by omega⟩
      refine ⟨Z, Y, ?_, ?_, ?_, ?_, ob, oY⟩
      · rw [e, ← hZ, Int.mul_sub, eX, eY, Int.sub_mul, Int.sub_mul]; omega
      · rw [e, Int.mul_left_comm, eY, Int.mul_add, Int.mul_assoc, Int.mul_assoc]
      · apply dvd_half
        rw [← hN]
        show _ ∣ 2 * (Z - (((s.a - s.b) / 2 : Nat) : Int))
        rw [show 2 * (Z - (((s.a - s.b) / 2 : Nat) : Int)) = (X - s.a) - (Y - s.b) by omega]
        exact Int.dvd_sub mX mY
      · exact dvd_less (by omega) mY
theorem In.tr_run {N : Nat} {x y : Int} {a b : Nat} (ha : (2 ^ N : Int) ∣ x - a) (hb : (2 ^ N : Int) ∣ y - b) (hob : b % 2 = 1) (hoy : y % 2 = 1) :
    ∀ j, j ≤ N → ∃ X Y, (In.run j (In.start a b)).Tr N j x y X Y
  | 0, _ => ⟨x, y, by simp [In.run, In.start], by simp [In.run, In.start], ha, hb, hob, hoy⟩
  | j + 1, hj => by
    obtain ⟨X, Y, h⟩ := In.tr_run ha hb hob hoy j (by omega)
    exact In.tr_step (by omega) h
/-- the words' sum: halved at least once, or the first word is only halved -/
theorem In.sum_run (a b : Nat) : ∀ j, ((In.run j (In.start a b)) = ⟨a / 2 ^ j, b, 1, 0, 0, 2 ^ j⟩ ∧ a % 2 ^ j = 0) ∨ 2 * ((In.run j (In.start a b)).a + (In.run j (In.start a b)).b) ≤ a + b
  | 0 => .inl ⟨by simp [In.run, In.start], by simp [Nat.mod_one]⟩
  | j + 1 => by
    rcases In.sum_run a b j with ⟨h, h0⟩ | h
    · rw [In.run, h]
      by_cases h2 : a / 2 ^ j % 2 = 0
      · left
        constructor
        · simp only [In.step, h2, if_true]
          rw [Nat.div_div_eq_div_mul, Nat.pow_succ, Int.pow_succ]
          rw [Int.mul_comm 2 (2 ^ j)]; rfl
        · rw [Nat.pow_succ, Nat.mod_mul, h0, h2]; simp
      · right
        have hle : a / 2 ^ j ≤ a := Nat.div_le_self _ _
        simp only [In.step, if_neg h2]
        split <;> dsimp only <;> omega
    · right
      rw [In.run]
      generalize In.run j (In.start a b) = s at h
      unfold In.step
      split
      · dsimp only; omega
      · split <;> dsimp only <;> omega
theorem In.zero_run (b : Nat) : ∀ j, In.run j (In.start 0 b) = ⟨0, b, 1, 0, 0, 2 ^ j⟩
  | 0 => rfl
  | j + 1 => by
    rw [In.run, In.zero_run b j]
    simp only [In.step, Nat.zero_mod, if_true, Nat.zero_div]
    rw [Int.pow_succ, Int.mul_comm 2 (2 ^ j)]; rfl
/-- the words come of the first ones by the factors -/
theorem In.ex_run (a b : Nat) (hb : b % 2 = 1) : ∀ j, 2 ^ j * ((In.run j (In.start a b)).a : Int) = (In.run j (In.start a b)).f0 * a + (In.run j (In.start a b)).g0 * b ∧
    2 ^ j * ((In.run j (In.start a b)).b : Int) = (In.run j (In.start a b)).f1 * a + (In.run j (In.start a b)).g1 * b ∧ (In.run j (In.start a b)).b % 2 = 1
  | 0 => ⟨by simp [In.run, In.start], by simp [In.run, In.start], hb⟩
  | j + 1 => by
    obtain ⟨e1, e2, ho⟩ := In.ex_run a b hb j
    rw [In.run]
    generalize In.run j (In.start a b) = s at e1 e2 ho
    have e : ∀ z : Int, 2 ^ (j + 1) * z = 2 ^ j * (2 * z) := fun z => by rw [Int.pow_succ, Int.mul_assoc]
    unfold In.step
    split
    · refine ⟨?_, ?_, ho⟩
      · rw [e, show 2 * ((s.a / 2 : Nat) : Int) = s.a by omega]; exact e1
      · rw [e, Int.mul_left_comm, e2, Int.mul_add, Int.mul_assoc, Int.mul_assoc]
    · split
      · refine ⟨?_, ?_, by dsimp only; omega⟩
        · rw [e, show 2 * (((s.b - s.a) / 2 : Nat) : Int) = (s.b : Int) - s.a by omega, Int.mul_sub, e1, e2, Int.sub_mul, Int.sub_mul]; omega
        · rw [e, Int.mul_left_comm, e1, Int.mul_add, Int.mul_assoc, Int.mul_assoc]
      · refine ⟨?_, ?_, ho⟩
        · rw [e, show 2 * (((s.a - s.b) / 2 : Nat) : Int) = (s.a : Int) - s.b by omega, Int.mul_sub, e1, e2, Int.sub_mul, Int.sub_mul]; omega
        · rw [e, Int.mul_left_comm, e2, Int.mul_add, Int.mul_assoc, Int.mul_assoc]
theorem natAbs_comb (f g x y : Int) (M : Nat) (hx : x.natAbs ≤ M) (hy : y.natAbs ≤ M) (k : Nat) (h : f.natAbs + g.natAbs ≤ k) : (f * x + g * y).natAbs ≤ k * M := by
  have h1 : (f * x + g * y).natAbs ≤ (f * x).natAbs + (g * y).natAbs := Int.natAbs_add_le _ _
  rw [Int.natAbs_mul, Int.natAbs_mul] at h1
  have h2 : f.natAbs * x.natAbs ≤ f.natAbs * M := Nat.mul_le_mul_left _ hx
  have h3 : g.natAbs * y.natAbs ≤ g.natAbs * M := Nat.mul_le_mul_left _ hy
  have h4 : (f.natAbs + g.natAbs) * M ≤ k * M := Nat.mul_le_mul_right _ h
  rw [Nat.add_mul] at h4
  omega
/-- The outer round: what is left is no larger, the second number stays odd, and the sum falls. -/
theorem outer_round {x y A B S D M : Nat} (hy : y % 2 = 1) (hB : B % 2 = 1) (hA : (2 ^ 31 : Int) ∣ (x : Int) - A) (hBy : (2 ^ 31 : Int) ∣ (y : Int) - B)
    (dA : ((x : Int) - S * A).natAbs ≤ D) (dB : ((y : Int) - S * B).natAbs ≤ D) (hD : 8 * D < S * (A + B)) (hx : x ≤ M) (hyM : y ≤ M) (hx0 : x = 0 → A = 0) :
    ∃ X Y : Int, 2 ^ 31 * X = (In.run 31 (In.start A B)).f0 * x + (In.run 31 (In.start A B)).g0 * y ∧
      2 ^ 31 * Y = (In.run 31 (In.start A B)).f1 * x + (In.run 31 (In.start A B)).g1 * y ∧ Y % 2 = 1 ∧ X.natAbs ≤ M ∧ Y.natAbs ≤ M ∧
      (0 < x → X.natAbs + Y.natAbs < x + y) ∧ (x = 0 → X = 0 ∧ Y.natAbs ≤ y) := by
  obtain ⟨X, Y, h⟩ := In.tr_run (N := 31) hA hBy hB (by omega : (y : Int) % 2 = 1) 31 (by omega)
  have hb := In.bd_run A B 31
  have hs := In.sum_run A B 31
  have hex := In.ex_run A B hB 31
  have hz := In.zero_run B 31
  have hz' : A = 0 → In.run 31 (In.start A B) = ⟨0, B, 1, 0, 0, 2 ^ 31⟩ := by rintro rfl; exact hz
  clear hz
  generalize In.run 31 (In.start A B) = s at *
  have big : ∀ (Z f g : Int), 2 ^ 31 * Z = f * x + g * y → f.natAbs + g.natAbs ≤ 2 ^ 31 → Z.natAbs ≤ M := by
    intro Z f g e hfg
    have h1 := natAbs_comb f g x y M (by omega) (by omega) _ hfg
    rw [← e, Int.natAbs_mul] at h1
    rw [show ((2 : Int) ^ 31).natAbs = 2 ^ 31 by decide] at h1
    exact Nat.le_of_mul_le_mul_left h1 (by decide)
  refine ⟨X, Y, h.eX, h.eY, h.oY, big X _ _ h.eX hb.s0, big Y _ _ h.eY hb.s1, ?_, ?_⟩
  · intro hx0
    rcases hs with ⟨e, _⟩ | hs
    · subst e
      have e1 := h.eX
      have e2 := h.eY
      dsimp only at e1 e2
      omega
    · have err : ∀ (Z f g : Int) (c : Nat), 2 ^ 31 * Z = f * x + g * y → (2 ^ 31 : Int) * c = f * A + g * B → f.natAbs + g.natAbs ≤ 2 ^ 31 → (Z - S * c).natAbs ≤ D := by
        intro Z f g c e1 e2 hfg
        have h1 := natAbs_comb f g ((x : Int) - S * A) ((y : Int) - S * B) D dA dB _ hfg
        have e3 : f * ((x : Int) - S * A) + g * ((y : Int) - S * B) = 2 ^ 31 * (Z - S * c) := by
          rw [Int.mul_sub (2 ^ 31), e1, Int.mul_left_comm, e2, Int.mul_sub, Int.mul_sub, Int.mul_add, Int.mul_left_comm f, Int.mul_left_comm g]
          omega
        rw [e3, Int.natAbs_mul, show ((2 : Int) ^ 31).natAbs = 2 ^ 31 by decide] at h1
        exact Nat.le_of_mul_le_mul_left h1 (by decide)
      have e1 := err X _ _ s.a h.eX hex.1 hb.s0
      have e2 := err Y _ _ s.b h.eY hex.2.1 hb.s1
      have k1 : (s.a : Int) + s.b ≤ (A + B) - (s.a + s.b) := by omega
      have k2 : (S : Int) * (s.a + s.b) ≤ S * ((A + B) - (s.a + s.b)) := Int.mul_le_mul_of_nonneg_left k1 (by omega)
      rw [Int.mul_sub, Int.mul_add, Int.mul_add] at k2
      have k3 : (8 : Int) * D < S * A + S * B := by
        have : ((8 * D : Nat) : Int) < ((S * (A + B) : Nat) : Int) := by omega
        rw [Int.natCast_mul, Int.natCast_mul, Int.natCast_add, Int.mul_add] at this
        exact this
      generalize (S : Int) * A = p at *
      generalize (S : Int) * B = q at *
      have p1 : 0 ≤ (S : Int) * s.a := Int.mul_nonneg (by omega) (by omega)
      have q1 : 0 ≤ (S : Int) * s.b := Int.mul_nonneg (by omega) (by omega)
      generalize (S : Int) * s.a = p' at *
      generalize (S : Int) * s.b = q' at *
      omega
  · intro hx1
    have e := hz' (hx0 hx1)
    have e1 := h.eX
    have e2 := h.eY
    subst e
    dsimp only at e1 e2
    omega
/-! the inverse's pieces: what they come to -/
def va (V : VE FD) : Nat := (val4I (V.it 0) (V.it 1) (V.it 2) (V.it 3)).toNat
def vb (V : VE FD) : Nat := (val4I (V.it 4) (V.it 5) (V.it 6) (V.it 7)).toNat
theorem val4I_cast {a b c d : Int} (ha : isW a) (hb : isW b) (hc : isW c) (hd : isW d) : ((val4I a b c d).toNat : Int) = val4I a b c d := by
  have := val4I_word ha hb hc hd
  omega
theorem iA_val {V : VE FD} {K : Mem → SV → Prop} (w0 : isW (V.it 0)) (w1 : isW (V.it 1)) (w2 : isW (V.it 2)) (w3 : isW (V.it 3)) (wi : isW (V.it 26)) (hp : iA.post V K) :
    (V.it 26 % 2 = 0 ∧ V.it 0 = 0 ∧ V.it 1 = 0 ∧ V.it 2 = 0 ∧ V.it 3 = 0 ∧ K memM (exV (.exit 0) shM)) ∨ ((V.it 26 % 2 = 1 ∨ va V ≠ 0) ∧ K memM (exV .normal shM)) := by
  obtain ⟨h27, hp⟩ := hp
  have h27 : V.it 27 = ibinF .and .u64 (V.it 26) 1 := h27
  rw [and1 wi] at h27
  rcases hp with ⟨ht, hk⟩ | ⟨ht, h28, h29, h30, hp⟩
  · have ht := cmp_eq_t ht
    have ht : V.it 27 = 1 := ht
    exact .inr ⟨.inl (by omega), hk⟩
  · have ht := cmp_eq_f ht
    have ht : V.it 27 ≠ 1 := ht
    have h28 : V.it 28 = ibinF .or .u64 (V.it 3) (V.it 2) := h28
    have h29 : V.it 29 = ibinF .or .u64 (V.it 28) (V.it 1) := h29
    have h30 : V.it 30 = ibinF .or .u64 (V.it 29) (V.it 0) := h30
    have k : V.it 30 = 0 ↔ ((V.it 3 = 0 ∧ V.it 2 = 0) ∧ V.it 1 = 0) ∧ V.it 0 = 0 := by
      rw [h30, or_zero' (by rw [h29]; exact wrap_u64 _) w0, h29, or_zero' (by rw [h28]; exact wrap_u64 _) w1, h28, or_zero' w3 w2]
    rcases hp with ⟨ht2, hk⟩ | ⟨ht2, hk⟩
    · have ht2 : V.it 30 = 0 := cmp_eq_t ht2
      obtain ⟨⟨⟨q3, q2⟩, q1⟩, q0⟩ := k.1 ht2
      exact .inl ⟨by omega, q0, q1, q2, q3, hk⟩
    · have ht2 : V.it 30 ≠ 0 := cmp_eq_f ht2
      refine .inr ⟨.inr fun h => ht2 (k.2 ?_), hk⟩
      unfold va val4I at h
      unfold isW at w0 w1 w2 w3
      simp only [Int.reducePow] at *
      omega
def vB1 : List SA := [pz 1, pz 0, pz 2, pz 3, pz 4, pz 5, pz 6, .c (.lit (.int .i64 1)), .c (.lit (.int .i64 4294967296)), iq .i64 22, iq .i64 23, iq .i64 24, iq .i64 25, iq .u64 26, iq .u64 29, iq .u64 30, .c (.lit (.int .i64 0))]
theorem cmp_gt_t {V : VE FD} {a b : IE} {z : Bool} (h : (flipT true (.cmp .gtr a b z)).holds V) : b.den V < a.den V := of_decide_eq_true h
theorem cmp_gt_f {V : VE FD} {a b : IE} {z : Bool} (h : (flipT false (.cmp .gtr a b z)).holds V) : a.den V ≤ b.den V := by
  have := of_decide_eq_false h
  omega
theorem iB1_val {V : VE FD} {K : Mem → SV → Prop} (hp : iB1.post V K) :
    ∃ n : Nat, (n = blen (va V) ∨ n = blen (vb V)) ∧ blen (va V) ≤ n ∧ blen (vb V) ≤ n ∧ V.it 29 = apx (val4I (V.it 0) (V.it 1) (V.it 2) (V.it 3)) n ∧ V.it 30 = apx (val4I (V.it 4) (V.it 5) (V.it 6) (V.it 7)) n ∧ K memM (exV .normal vB1) := by
  obtain ⟨h27, h28, hp⟩ := hp
  have h27 : [V.it (27 + 0)] = [(blen (va V) : Int)] := h27.2
  have h28 : [V.it (28 + 0)] = [(blen (vb V) : Int)] := h28.2
  have h27 : V.it 27 = (blen (va V) : Int) := by simpa using h27
  have h28 : V.it 28 = (blen (vb V) : Int) := by simpa using h28
  rcases hp with ⟨ht, h29, h30, hk⟩ | ⟨ht, h29, h30, hk⟩
  · have ht : V.it 27 < V.it 28 := cmp_gt_t ht
    have h29 : [V.it (29 + 0)] = [apx (val4I (V.it 0) (V.it 1) (V.it 2) (V.it 3)) (V.it 28)] := h29.2
    have h30 : [V.it (30 + 0)] = [apx (val4I (V.it 4) (V.it 5) (V.it 6) (V.it 7)) (V.it 28)] := h30.2
    rw [h28] at h29 h30
    exact ⟨blen (vb V), .inr rfl, by omega, by omega, by simpa using h29, by simpa using h30, hk⟩
  · have ht : V.it 28 ≤ V.it 27 := cmp_gt_f ht
    have h29 : [V.it (29 + 0)] = [apx (val4I (V.it 0) (V.it 1) (V.it 2) (V.it 3)) (V.it 27)] := h29.2
    have h30 : [V.it (30 + 0)] = [apx (val4I (V.it 4) (V.it 5) (V.it 6) (V.it 7)) (V.it 27)] := h30.2
    rw [h27] at h29 h30
    exact ⟨blen (va V), .inl rfl, by omega, by omega, by simpa using h29, by simpa using h30, hk⟩
/-- the factors, packed -/
def pk (f g : Int) : Int := IntKind.wrap .i64 (f + 2 ^ 32 * g)
theorem wrap_congr {x y : Int} (h : x % 2 ^ 64 = y % 2 ^ 64) : IntKind.wrap .i64 x = IntKind.wrap .i64 y := by
  rw [wrap_i64_eq, wrap_i64_eq, h]
theorem wrap_mod (x : Int) : IntKind.wrap .i64 x % 2 ^ 64 = x % 2 ^ 64 := by
  rw [wrap_i64_eq]
  split <;> omega
theorem pk_sub (f g f' g' : Int) : IntKind.wrap .i64 (pk f g - pk f' g') = pk (f - f') (g - g') := by
  refine wrap_congr ?_
  have h1 := wrap_mod (f + 2 ^ 32 * g)
  have h2 := wrap_mod (f' + 2 ^ 32 * g')
  unfold pk
  simp only [Int.reducePow] at *
  omega
theorem pk_two (f g : Int) : IntKind.wrap .i64 (pk f g * 2) = pk (2 * f) (2 * g) := by
  refine wrap_congr ?_
  have h1 := wrap_mod (f + 2 ^ 32 * g)
  unfold pk
  simp only [Int.reducePow] at *
  omega
def shIn (c0 c1 a b j : Nat) : List SA := [pz 1, pz 0, pz 2, pz 3, pz 4, pz 5, pz 6, iq .i64 c0, iq .i64 c1, iq .i64 22, iq .i64 23, iq .i64 24, iq .i64 25, iq .u64 26, iq .u64 a, iq .u64 b, iq .i64 j]
theorem quo2 {a : Int} (ha : isW a) : ibinF .quo .u64 a 2 = a / 2 := by
  show ((a).tdiv 2) % 2 ^ 64 = _
  rw [Int.tdiv_eq_ediv_of_nonneg ha.1]
  unfold isW at ha
  simp only [Int.reducePow] at *
  omega
theorem iIn_val {V : VE FD} {K : Mem → SV → Prop} {s : In} {j : Nat} (hj : V.it 29 = j) (hj31 : j ≤ 31) (ha : V.it 27 = s.a) (hb : V.it 28 = s.b) (wa : isW (V.it 27)) (wb : isW (V.it 28)) (hc0 : V.it 20 = pk s.f0 s.g0) (hc1 : V.it 21 = pk s.f1 s.g1) (hp : iIn.post V K) :
    (j < 31 ∧ ∃ c0 c1 a b j', V.it c0 = pk s.step.f0 s.step.g0 ∧ V.it c1 = pk s.step.f1 s.step.g1 ∧ V.it a = s.step.a ∧ V.it b = s.step.b ∧ V.it j' = ((j + 1 : Nat) : Int) ∧ K memM (exV .normal (shIn c0 c1 a b j')) ∧
      ((c0 = 20 ∧ c1 = 32 ∧ a = 31 ∧ b = 28 ∧ j' = 33) ∨ (c0 = 35 ∧ c1 = 36 ∧ a = 34 ∧ b = 27 ∧ j' = 37) ∨ (c0 = 34 ∧ c1 = 35 ∧ a = 33 ∧ b = 28 ∧ j' = 36))) ∨ (j = 31 ∧ K memM (exV (.exit 2) shI)) := by
  rcases hp with ⟨ht, h30, hp⟩ | ⟨ht, hk⟩
  · have ht : V.it 29 < 31 := cmp_lt_t ht
    refine .inl ⟨by omega, ?_⟩
    have h30 : V.it 30 = ibinF .and .u64 (V.it 27) 1 := h30
    rw [and1 wa] at h30
    unfold isW at wa wb
    simp only [Int.reducePow] at wa wb
    rcases hp with ⟨ht2, h31, h32, h33, hk⟩ | ⟨ht2, h31, hp⟩
    · have ht2 : V.it 30 = 0 := cmp_eq_t ht2
      have h31 : V.it 31 = ibinF .quo .u64 (V.it 27) 2 := h31
      rw [quo2 ⟨by omega, by simp only [Int.reducePow]; omega⟩, ha] at h31
      have h32 : V.it 32 = IntKind.wrap .i64 (V.it 21 * 2) := h32
      rw [hc1, pk_two] at h32
      have h33 : V.it 33 = IntKind.wrap .i64 (V.it 29 + 1) := h33
      have h33 := wrap_sm h33 (by omega) (by omega)
      have hs : s.step = ⟨s.a / 2, s.b, s.f0, s.g0, 2 * s.f1, 2 * s.g1⟩ := by unfold In.step; rw [if_pos (by omega)]
      rw [hs]
      exact ⟨20, 32, 31, 28, 33, hc0, h32, by rw [h31]; simp, hb, by rw [h33]; omega, hk, .inl ⟨rfl, rfl, rfl, rfl, rfl⟩⟩
    · have ht2 : V.it 30 ≠ 0 := cmp_eq_f ht2
      obtain ⟨e31, e31a, e31b, e32a, e32b⟩ := pf2 h31
      simp only [IE.den_var, IE.den_lit, Nat.reduceAdd, Nat.add_zero] at e31 e31a e31b e32a e32b
      rcases hp with ⟨ht3, h33, h34, h35, h36, h37, hk⟩ | ⟨ht3, h33, h34, h35, h36, hk⟩
      · have ht3 : V.it 32 = 1 := cmp_eq_t ht3
        have h33 : V.it 33 = (V.it 28 - V.it 27) % 2 ^ 64 := h33
        simp only [Int.reducePow] at h33
        have h34 : V.it 34 = ibinF .quo .u64 (V.it 33) 2 := h34
        rw [quo2 ⟨by omega, by simp only [Int.reducePow]; omega⟩] at h34
        have h35 : V.it 35 = IntKind.wrap .i64 (V.it 21 - V.it 20) := h35
        rw [hc1, hc0, pk_sub] at h35
        have h36 : V.it 36 = IntKind.wrap .i64 (V.it 20 * 2) := h36
        rw [hc0, pk_two] at h36
        have h37 : V.it 37 = IntKind.wrap .i64 (V.it 29 + 1) := h37
        have h37 := wrap_sm h37 (by omega) (by omega)
        have hs : s.step = ⟨(s.b - s.a) / 2, s.a, s.f1 - s.f0, s.g1 - s.g0, 2 * s.f0, 2 * s.g0⟩ := by unfold In.step; rw [if_neg (by omega), if_pos (by omega)]
        rw [hs]
        refine ⟨35, 36, 34, 27, 37, h35, h36, ?_, ha, by rw [h37]; omega, hk, .inr (.inl ⟨rfl, rfl, rfl, rfl, rfl⟩)⟩
        rw [h34]; show _ = (((s.b - s.a) / 2 : Nat) : Int); omega
      · have ht3 : V.it 32 ≠ 1 := cmp_eq_f ht3
        have h33 : V.it 33 = ibinF .quo .u64 (V.it 31) 2 := h33
        rw [quo2 ⟨by omega, by simp only [Int.reducePow]; omega⟩] at h33
        have h34 : V.it 34 = IntKind.wrap .i64 (V.it 20 - V.it 21) := h34
        rw [hc1, hc0, pk_sub] at h34
        have h35 : V.it 35 = IntKind.wrap .i64 (V.it 21 * 2) := h35
        rw [hc1, pk_two] at h35
        have h36 : V.it 36 = IntKind.wrap .i64 (V.it 29 + 1) := h36
        have h36 := wrap_sm h36 (by omega) (by omega)
        have hs : s.step = ⟨(s.a - s.b) / 2, s.b, s.f0 - s.f1, s.g0 - s.g1, 2 * s.f1, 2 * s.g1⟩ := by unfold In.step; rw [if_neg (by omega), if_neg (by omega)]
        rw [hs]
        refine ⟨34, 35, 33, 28, 36, h34, h35, ?_, hb, by rw [h36]; omega, hk, .inr (.inr ⟨rfl, rfl, rfl, rfl, rfl⟩)⟩
        rw [h33]; show _ = (((s.a - s.b) / 2 : Nat) : Int); omega
  · have ht : (31 : Int) ≤ V.it 29 := cmp_lt_f ht
    exact .inr ⟨by omega, hk⟩
section
set_option exponentiation.threshold 512
def Res (V : VE FD) (K : Mem → SV → Prop) (n : Nat) (sh : List SA) (mem : Mem) (req : List Nat) (ex : Ex) (F : VE FD → Prop) : Prop :=
  ∃ m v l, v = exV ex l ∧ K m v ∧ ∃ same, Good V n sh mem req same m v ∧ F (subV V [.var 0] (sigI n m v sh mem))
def kM : List Nat := [1, 4, 4, 4, 4, 4, 4, 1, 1, 1, 1, 1, 1, 1, 1, 1, 1, 1, 1, 1, 1, 1, 1, 1, 1, 1, 1]
def kIn : List Nat := 4 :: 1 :: 1 :: kM
def k3 : List Nat := 4 :: kM
def k4 : List Nat := 4 :: k3
theorem KsOK_word {V : VE FD} {n : Nat} {ks : List Nat} (hk : KsOK V n ks) {m : Nat} (h : (List.range m).all (fun i => Nat.blt i n && (match nthK ks (n - 1 - i) with | some k => wK k | none => false)) = true) : ∀ i, i < m → isW (V.it i) := by
  intro i hi
  have := List.all_eq_true.1 h i (List.mem_range.2 hi)
  simp only [Bool.and_eq_true] at this
  have hlt : i + 1 ≤ n := Nat.le_of_ble_eq_true this.1
  have h2 := this.2
  split at h2
  · rename_i k hk'
    have := hk.get (j := n - 1 - i) (by omega) hk'
    rw [show n - 1 - (n - 1 - i) = i by omega] at this
    exact kOK_word this h2
  · simp at h2
theorem and63 {w : Int} (hw : isW w) : ibinF .and .u64 w 9223372036854775808 = 0 ↔ w < 9223372036854775808 := by
  have h := (mask_high (k := 63) (m := 9223372036854775808) (x := w) (t := 9223372036854775808) (l := 9223372036854775807) (by omega) (by kernel_rfl) (by kernel_rfl) (by kernel_rfl) hw).1
  rw [h]
  unfold isW at hw
  simp only [Int.reducePow] at *
  omega
theorem andI {x : Int} : ibinF .and .i64 x 4294967295 = x % 4294967296 := by
  show IntKind.wrap .i64 (((BitVec.ofInt 64 x &&& BitVec.ofInt 64 4294967295).toNat : Int)) = _
  have h1 : BitVec.ofInt 64 4294967295 = BitVec.ofNat 64 (2 ^ 32 - 1) := by rfl
  have h2 : (BitVec.ofInt 64 x &&& BitVec.ofInt 64 4294967295).toNat = (x % 18446744073709551616).toNat % 2 ^ 32 := by
    rw [h1, BitVec.toNat_and, BitVec.toNat_ofInt, BitVec.toNat_ofNat, Nat.mod_eq_of_lt (show 2 ^ 32 - 1 < 2 ^ 64 by decide), Nat.and_two_pow_sub_one_eq_mod]
    rfl
  rw [h2, wrap_i64_eq]
  simp only [Int.reducePow, Nat.reducePow]
  split <;> omega
theorem shrI {x : Int} : ibinF .shr .i64 x 32 = x / 4294967296 := by
  show x.fdiv (2 ^ (min (32 : Int).toNat 64)) = _
  rw [show min (32 : Int).toNat 64 = 32 from rfl, Int.fdiv_eq_ediv_of_nonneg _ (by decide)]
  rfl
theorem dec_pk {f g c t r28 r29 r30 r31 r32 : Int} (hf : -2147483648 < f ∧ f ≤ 2147483648) (hg : -2147483648 < g ∧ g ≤ 2147483648) (hc : c = pk f g) (h27 : t = IntKind.wrap .i64 (c + 9223372034707292159))
    (h28 : r28 = ibinF .and .i64 t 4294967295) (h29 : r29 = IntKind.wrap .i64 (r28 - 2147483647)) (h30 : r30 = ibinF .shr .i64 t 32) (h31 : r31 = ibinF .and .i64 r30 4294967295) (h32 : r32 = IntKind.wrap .i64 (r31 - 2147483647)) : r29 = f ∧ r32 = g := by
  rw [andI] at h28 h31
  rw [shrI] at h30
  have hm := wrap_mod (f + 2 ^ 32 * g)
  unfold pk at hc
  rw [← hc] at hm
  have ht := wrap_mod (c + 9223372034707292159)
  rw [← h27] at ht
  have hti : isI t := by rw [h27]; exact wrap_i64 _
  unfold isI at hti
  simp only [Int.reducePow] at *
  have k1 : t % 4294967296 = f + 2147483647 := by omega
  have k2 : t / 4294967296 % 4294967296 = g + 2147483647 := by omega
  rw [h28, k1] at h29
  rw [h31, h30, k2] at h32
  rw [wrap_i64_eq] at h29 h32
  simp only [Int.reducePow] at h29 h32
  constructor
  · rw [h29]; split <;> omega
  · rw [h32]; split <;> omega
theorem w5_words {z a b c d e : Int} (h : [a, b, c, d, e] = w5 z) : isW a ∧ isW b ∧ isW c ∧ isW d ∧ isW e ∧ v5 a b c d e = z % 2135987035920910082395021706169552114602704522356652769947041607822219725780640550022962086936576 := by
  unfold w5 at h
  simp only [List.cons.injEq, and_true] at h
  obtain ⟨rfl, rfl, rfl, rfl, rfl⟩ := h
  refine ⟨mod_word _, mod_word _, mod_word _, mod_word _, mod_word _, ?_⟩
  unfold v5
  simp only [Int.reducePow]
  omega
theorem pos_z {a b c d e z : Int} (ha : isW a) (hb : isW b) (hc : isW c) (hd : isW d) (he : isW e) (hm : v5 a b c d e = z % 2135987035920910082395021706169552114602704522356652769947041607822219725780640550022962086936576) (hz : z.natAbs < 2 ^ 287) (ht : e < 9223372036854775808) : v5 a b c d e = z.natAbs := by
  unfold v5 isW at *
  simp only [Int.reducePow, Nat.reducePow] at *
  omega
theorem neg_z {a b c d e z n0 n1 n2 n3 n4 c4 : Int} (ha : isW a) (hb : isW b) (hc : isW c) (hd : isW d) (he : isW e) (hm : v5 a b c d e = z % 2135987035920910082395021706169552114602704522356652769947041607822219725780640550022962086936576) (hz : z.natAbs < 2 ^ 287) (ht : ¬ e < 9223372036854775808)
    (hn : v5 n0 n1 n2 n3 n4 = -v5 a b c d e + 2135987035920910082395021706169552114602704522356652769947041607822219725780640550022962086936576 * c4) (k0 : isW n0) (k1 : isW n1) (k2 : isW n2) (k3 : isW n3) (k4 : isW n4) : v5 n0 n1 n2 n3 n4 = z.natAbs := by
  unfold v5 isW at *
  simp only [Int.reducePow, Nat.reducePow] at *
  omega
theorem shift31 {s0 s1 s2 s3 s4 r0 r1 r2 r3 : Int} {z : Nat} (h0 : isW s0) (h1 : isW s1) (h2 : isW s2) (h3 : isW s3) (h4 : isW s4) (e0 : r0 = s0 / 2 ^ 31 + s1 * 2 ^ (64 - 31) % 2 ^ 64) (e1 : r1 = s1 / 2 ^ 31 + s2 * 2 ^ (64 - 31) % 2 ^ 64)
    (e2 : r2 = s2 / 2 ^ 31 + s3 * 2 ^ (64 - 31) % 2 ^ 64) (e3 : r3 = s3 / 2 ^ 31 + s4 * 2 ^ (64 - 31) % 2 ^ 64) (hv : v5 s0 s1 s2 s3 s4 = z) (hz : z < 2 ^ 287) : val4I r0 r1 r2 r3 = ((z / 2 ^ 31 : Nat) : Int) := by
  unfold v5 isW at *
  unfold val4I
  simp only [Int.reducePow, Nat.reducePow, Nat.reduceSub] at *
  omega
theorem iB3a_res {V : VE FD} {K : Mem → SV → Prop} (hk : KsOK V 27 kM) {f g : Int} (hf : -2147483648 < f ∧ f ≤ 2147483648) (hg : -2147483648 < g ∧ g ≤ 2147483648) (hc : V.it 20 = pk f g)
    (hz : (f * val4I (V.it 0) (V.it 1) (V.it 2) (V.it 3) + g * val4I (V.it 4) (V.it 5) (V.it 6) (V.it 7)).natAbs < 2 ^ 287) (hp : iB3a.post V K) :
    Res V K 28 sh3 memM k3 .normal fun V2 => (∀ i ∈ [4, 5, 6, 7, 8, 9, 10, 11, 12, 13, 14, 15, 21, 22, 23, 24, 25, 26], V2.it i = V.it i) ∧ val4I (V2.it 0) (V2.it 1) (V2.it 2) (V2.it 3) = ((f * val4I (V.it 0) (V.it 1) (V.it 2) (V.it 3) + g * val4I (V.it 4) (V.it 5) (V.it 6) (V.it 7)).natAbs / 2 ^ 31 : Nat) ∧ (∀ i, i < 4 → V2.it (16 + i) = V.it i) := by
  have wx : ∀ i, i < 20 → isW (V.it i) := fun i hi => KsOK_word hk (by kernel_rfl) i hi
  have hp := post_good (n := 28) (sh := sh3) (mem := memM) (req := k3) (same := [4, 5, 6, 7, 8, 9, 10, 11, 12, 13, 14, 15, 21, 22, 23, 24, 25, 26]) (ne := 1) (by kernel_rfl) hk hp
  obtain ⟨h27, h28, h29, h30, h31, h32, h33, h38, hp⟩ := hp
  obtain ⟨ef, eg⟩ := dec_pk hf hg hc (show V.it 27 = IntKind.wrap .i64 (V.it 20 + 9223372034707292159) from h27) h28 h29 h30 h31 h32
  have h33 : [V.it 33, V.it 34, V.it 35, V.it 36, V.it 37] = w5 (V.it 29 * val4I (V.it 0) (V.it 1) (V.it 2) (V.it 3) + V.it 32 * val4I (V.it 4) (V.it 5) (V.it 6) (V.it 7)) := h33.2
  rw [show V.it 29 = f from ef, show V.it 32 = g from eg] at h33
  generalize f * val4I (V.it 0) (V.it 1) (V.it 2) (V.it 3) + g * val4I (V.it 4) (V.it 5) (V.it 6) (V.it 7) = z at *
  obtain ⟨m0, m1, m2, m3, m4, hm⟩ := w5_words h33
  have h38 : V.it 38 = ibinF .and .u64 (V.it 37) 9223372036854775808 := h38
  rcases hp with ⟨ht, h39, h40, h41, h43, h45, h47, h49, h51, h52, h53, h54, h55, h56, h57, h58, h59, h60, h61, h62, hk2, hg2⟩ | ⟨ht, h39, h40, h41, h42, h43, h44, h45, h46, h47, h48, h49, h50, hk2, hg2⟩
  · have ht : V.it 38 ≠ 0 := cmp_ne_t ht
    rw [h38, Ne, and63 m4] at ht
    have g0 := pf2 h41
    have g1 := pf2 h43
    have g2 := pf2 h45
    have g3 := pf2 h47
    have g4 := pf2 h49
    simp only [IE.den_lit, IE.den_var, Nat.reduceAdd, Nat.add_zero] at g0 g1 g2 g3 g4
    have hn := neg_z m0 m1 m2 m3 m4 hm hz ht (neg_words g0.1 g1.1 g2.1 g3.1 g4.1) ⟨g0.2.1, g0.2.2.1⟩ ⟨g1.2.1, g1.2.2.1⟩ ⟨g2.2.1, g2.2.2.1⟩ ⟨g3.2.1, g3.2.2.1⟩ ⟨g4.2.1, g4.2.2.1⟩
    have s0 := sh2 (a := V.it 41) (b := V.it 43) ⟨g0.2.1, g0.2.2.1⟩ ⟨g1.2.1, g1.2.2.1⟩ 31 (by omega) (r := V.it 51) (s := V.it 52) (t := V.it 53) h51 h52 h53
    have s1 := sh2 (a := V.it 43) (b := V.it 45) ⟨g1.2.1, g1.2.2.1⟩ ⟨g2.2.1, g2.2.2.1⟩ 31 (by omega) (r := V.it 54) (s := V.it 55) (t := V.it 56) h54 h55 h56
    have s2 := sh2 (a := V.it 45) (b := V.it 47) ⟨g2.2.1, g2.2.2.1⟩ ⟨g3.2.1, g3.2.2.1⟩ 31 (by omega) (r := V.it 57) (s := V.it 58) (t := V.it 59) h57 h58 h59
    have s3 := sh2 (a := V.it 47) (b := V.it 49) ⟨g3.2.1, g3.2.2.1⟩ ⟨g4.2.1, g4.2.2.1⟩ 31 (by omega) (r := V.it 60) (s := V.it 61) (t := V.it 62) h60 h61 h62
    refine ⟨_, _, _, rfl, hk2, _, hg2, hg2.same, ?_, fun i hi => ?_⟩
    rotate_left
    · match i, hi with
      | 0, _ => rfl
      | 1, _ => rfl
      | 2, _ => rfl
      | 3, _ => rfl
    exact shift31 ⟨g0.2.1, g0.2.2.1⟩ ⟨g1.2.1, g1.2.2.1⟩ ⟨g2.2.1, g2.2.2.1⟩ ⟨g3.2.1, g3.2.2.1⟩ ⟨g4.2.1, g4.2.2.1⟩ s0.1 s1.1 s2.1 s3.1 hn hz
  · have ht : V.it 38 = 0 := cmp_ne_f ht
    rw [h38, and63 m4] at ht
    have hn := pos_z m0 m1 m2 m3 m4 hm hz ht
    have s0 := sh2 (a := V.it 33) (b := V.it 34) m0 m1 31 (by omega) (r := V.it 39) (s := V.it 40) (t := V.it 41) h39 h40 h41
    have s1 := sh2 (a := V.it 34) (b := V.it 35) m1 m2 31 (by omega) (r := V.it 42) (s := V.it 43) (t := V.it 44) h42 h43 h44
    have s2 := sh2 (a := V.it 35) (b := V.it 36) m2 m3 31 (by omega) (r := V.it 45) (s := V.it 46) (t := V.it 47) h45 h46 h47
    have s3 := sh2 (a := V.it 36) (b := V.it 37) m3 m4 31 (by omega) (r := V.it 48) (s := V.it 49) (t := V.it 50) h48 h49 h50
    refine ⟨_, _, _, rfl, hk2, _, hg2, hg2.same, ?_, fun i hi => ?_⟩
    rotate_left
    · match i, hi with
      | 0, _ => rfl
      | 1, _ => rfl
      | 2, _ => rfl
      | 3, _ => rfl
    exact shift31 m0 m1 m2 m3 m4 s0.1 s1.1 s2.1 s3.1 hn hz
theorem iB3b_res {V : VE FD} {K : Mem → SV → Prop} (hk : KsOK V 28 k3) {f g : Int} (hf : -2147483648 < f ∧ f ≤ 2147483648) (hg : -2147483648 < g ∧ g ≤ 2147483648) (hc : V.it 21 = pk f g)
    (hz : (f * val4I (V.it 16) (V.it 17) (V.it 18) (V.it 19) + g * val4I (V.it 4) (V.it 5) (V.it 6) (V.it 7)).natAbs < 2 ^ 287) (hp : iB3b.post V K) :
    Res V K 29 sh4 memM k4 .normal fun V2 => (∀ i ∈ [0, 1, 2, 3, 8, 9, 10, 11, 12, 13, 14, 15, 16, 17, 18, 19, 20, 22, 23, 24, 25, 26, 27], V2.it i = V.it i) ∧ val4I (V2.it 4) (V2.it 5) (V2.it 6) (V2.it 7) = ((f * val4I (V.it 16) (V.it 17) (V.it 18) (V.it 19) + g * val4I (V.it 4) (V.it 5) (V.it 6) (V.it 7)).natAbs / 2 ^ 31 : Nat) := by
  have wx : ∀ i, i < 20 → isW (V.it i) := fun i hi => KsOK_word hk (by kernel_rfl) i hi
  have hp := post_good (n := 29) (sh := sh4) (mem := memM) (req := k4) (same := [0, 1, 2, 3, 8, 9, 10, 11, 12, 13, 14, 15, 16, 17, 18, 19, 20, 22, 23, 24, 25, 26, 27]) (ne := 1) (by kernel_rfl) hk hp
  obtain ⟨h27, h28, h29, h30, h31, h32, h33, h38, hp⟩ := hp
  obtain ⟨ef, eg⟩ := dec_pk hf hg hc (show V.it 28 = IntKind.wrap .i64 (V.it 21 + 9223372034707292159) from h27) h28 h29 h30 h31 h32
  have h33 : [V.it 34, V.it 35, V.it 36, V.it 37, V.it 38] = w5 (V.it 30 * val4I (V.it 16) (V.it 17) (V.it 18) (V.it 19) + V.it 33 * val4I (V.it 4) (V.it 5) (V.it 6) (V.it 7)) := h33.2
  rw [show V.it 30 = f from ef, show V.it 33 = g from eg] at h33
  generalize f * val4I (V.it 16) (V.it 17) (V.it 18) (V.it 19) + g * val4I (V.it 4) (V.it 5) (V.it 6) (V.it 7) = z at *
  obtain ⟨m0, m1, m2, m3, m4, hm⟩ := w5_words h33
  have h38 : V.it 39 = ibinF .and .u64 (V.it 38) 9223372036854775808 := h38
  rcases hp with ⟨ht, h39, h40, h41, h43, h45, h47, h49, h51, h52, h53, h54, h55, h56, h57, h58, h59, h60, h61, h62, hk2, hg2⟩ | ⟨ht, h39, h40, h41, h42, h43, h44, h45, h46, h47, h48, h49, h50, hk2, hg2⟩
  · have ht : V.it 39 ≠ 0 := cmp_ne_t ht
    rw [h38, Ne, and63 m4] at ht
    have g0 := pf2 h41
    have g1 := pf2 h43
    have g2 := pf2 h45
    have g3 := pf2 h47
    have g4 := pf2 h49
    simp only [IE.den_lit, IE.den_var, Nat.reduceAdd, Nat.add_zero] at g0 g1 g2 g3 g4
    have hn := neg_z m0 m1 m2 m3 m4 hm hz ht (neg_words g0.1 g1.1 g2.1 g3.1 g4.1) ⟨g0.2.1, g0.2.2.1⟩ ⟨g1.2.1, g1.2.2.1⟩ ⟨g2.2.1, g2.2.2.1⟩ ⟨g3.2.1, g3.2.2.1⟩ ⟨g4.2.1, g4.2.2.1⟩
    have s0 := sh2 (a := V.it 42) (b := V.it 44) ⟨g0.2.1, g0.2.2.1⟩ ⟨g1.2.1, g1.2.2.1⟩ 31 (by omega) (r := V.it 52) (s := V.it 53) (t := V.it 54) h51 h52 h53
    have s1 := sh2 (a := V.it 44) (b := V.it 46) ⟨g1.2.1, g1.2.2.1⟩ ⟨g2.2.1, g2.2.2.1⟩ 31 (by omega) (r := V.it 55) (s := V.it 56) (t := V.it 57) h54 h55 h56
    have s2 := sh2 (a := V.it 46) (b := V.it 48) ⟨g2.2.1, g2.2.2.1⟩ ⟨g3.2.1, g3.2.2.1⟩ 31 (by omega) (r := V.it 58) (s := V.it 59) (t := V.it 60) h57 h58 h59
    have s3 := sh2 (a := V.it 48) (b := V.it 50) ⟨g3.2.1, g3.2.2.1⟩ ⟨g4.2.1, g4.2.2.1⟩ 31 (by omega) (r := V.it 61) (s := V.it 62) (t := V.it 63) h60 h61 h62
    refine ⟨_, _, _, rfl, hk2, _, hg2, hg2.same, ?_⟩
    exact shift31 ⟨g0.2.1, g0.2.2.1⟩ ⟨g1.2.1, g1.2.2.1⟩ ⟨g2.2.1, g2.2.2.1⟩ ⟨g3.2.1, g3.2.2.1⟩ ⟨g4.2.1, g4.2.2.1⟩ s0.1 s1.1 s2.1 s3.1 hn hz
  · have ht : V.it 39 = 0 := cmp_ne_f ht
    rw [h38, and63 m4] at ht
    have hn := pos_z m0 m1 m2 m3 m4 hm hz ht
    have s0 := sh2 (a := V.it 34) (b := V.it 35) m0 m1 31 (by omega) (r := V.it 40) (s := V.it 41) (t := V.it 42) h39 h40 h41
    have s1 := sh2 (a := V.it 35) (b := V.it 36) m1 m2 31 (by omega) (r := V.it 43) (s := V.it 44) (t := V.it 45) h42 h43 h44
    have s2 := sh2 (a := V.it 36) (b := V.it 37) m2 m3 31 (by omega) (r := V.it 46) (s := V.it 47) (t := V.it 48) h45 h46 h47
    have s3 := sh2 (a := V.it 37) (b := V.it 38) m3 m4 31 (by omega) (r := V.it 49) (s := V.it 50) (t := V.it 51) h48 h49 h50
    refine ⟨_, _, _, rfl, hk2, _, hg2, hg2.same, ?_⟩
    exact shift31 m0 m1 m2 m3 m4 s0.1 s1.1 s2.1 s3.1 hn hz
end
/-! the same world by other names -/
def MemRe (V V' : VE FD) (B : Bs) : Mem → Mem → Prop
  | [], [] => True
  | (_, c) :: r, (_, c') :: r' => (c.length = c'.length ∧ ∀ vs, LIs V B c vs → LIs V' B c' vs) ∧ MemRe V V' B r r'
  | _, _ => False
theorem MemRe.len {V V' : VE FD} {B : Bs} : ∀ {m m' : Mem}, MemRe V V' B m m' → m.length = m'.length
  | [], [], _ => rfl
  | _ :: _, _ :: _, h => by simp [MemRe.len h.2]
  | [], _ :: _, h => h.elim
  | _ :: _, [], h => h.elim
theorem MemRe.get {V V' : VE FD} {B : Bs} : ∀ {m m' : Mem} {r : Nat} {f : Bool} {c' : List SC}, MemRe V V' B m m' → m'[r]? = some (f, c') → ∃ f0 c, m[r]? = some (f0, c) ∧ c.length = c'.length ∧ ∀ vs, LIs V B c vs → LIs V' B c' vs
  | (f0, c) :: m, (f1, c1) :: m', 0, f, c', h, hg => by
    simp only [List.getElem?_cons_zero, Option.some.injEq, Prod.mk.injEq] at hg
    obtain ⟨rfl, rfl⟩ := hg
    exact ⟨f0, c, rfl, h.1⟩
  | _ :: m, _ :: m', r + 1, f, c', h, hg => by
    simp only [List.getElem?_cons_succ] at hg ⊢
    exact MemRe.get h.2 hg
  | [], [], r, _, _, _, hg => by simp at hg
  | [], _ :: _, _, _, _, h, _ => h.elim
  | _ :: _, [], _, _, _, h, _ => h.elim
theorem Rep.re {S S' : Nat → Nat → Prop} {w0 w : World} {V V' : VE FD} {B : Bs} {mem mem' : Mem} {ne ni : Nat} {tr : List TOp} {ds : List Bool} (h : Rep S w0 V B ⟨mem, ne, ni, tr, ds⟩ w) (hS : ∀ x i, S x i → S' x i) (hm : MemRe V V' B mem mem')
    (hw : ∀ (r : Nat) (cs : List SC) (b o i : Nat), mem'[r]? = some (true, cs) → B[r]? = some (b, o) → i < cs.length → b < w0.heap.size → S' b (o + i)) : Rep S' w0 V' B ⟨mem', 0, 0, [], []⟩ w := by
  refine ⟨h.keeps.mono fun x i _ hx => hS x i hx, ?_, ?_, hw, ?_⟩
  · have : B.length = mem.length := h.len
    rw [this]; exact hm.len
  · intro r f c' b o h1 h2
    obtain ⟨f0, c, h3, _, h5⟩ := hm.get h1
    obtain ⟨vs, h6, h7⟩ := h.has r f0 c b o h3 h2
    exact ⟨vs, h5 vs h6, h7⟩
  · intro r r' f c f' c' b o b' o' i j hne h1 h2 hb hb' hi hj
    obtain ⟨f0, c0, h3, h4, _⟩ := hm.get h1
    obtain ⟨f1, c1, h6, h7, _⟩ := hm.get h2
    exact h.disj r r' f0 c0 f1 c1 b o b' o' i j hne h3 h6 hb hb' (by omega) (by omega)
def SasRe (V V' : VE FD) (B : Bs) : List SA → List SA → Prop
  | [], [] => True
  | x :: l, y :: m => (∀ u, x.is V B u → y.is V' B u) ∧ SasRe V V' B l m
  | _, _ => False
theorem zipT_re {V V' : VE FD} {B : Bs} : ∀ {ts : List Nat} {l m : List SA} {t : Nat} {v : SV}, SasRe V V' B l m → lk (zipT ts m) t = some v → ∃ x y, v = .a y ∧ lk (zipT ts l) t = some (.a x) ∧ ∀ u, x.is V B u → y.is V' B u
  | [], _, _, _, _, _, h => by simp [zipT, lk] at h
  | t0 :: ts, x :: l, y :: m, t, v, hs, h => by
    simp only [zipT, lk] at h ⊢
    split at h
    · simp only [Option.some.injEq] at h
      exact ⟨x, y, h.symm, rfl, hs.1⟩
    · exact zipT_re hs.2 h
  | _ :: _, [], [], _, _, _, h => by simp [zipT, lk] at h
  | _ :: _, [], _ :: _, _, _, hs, _ => hs.elim
  | _ :: _, _ :: _, [], _, _, hs, _ => hs.elim
theorem TOK.re {V V' : VE FD} {B : Bs} {N : Nat} {ts : List Nat} {l m : List SA} {a : Act} (h : TOK V B N (mkT (zipT ts l)) a) (hs : SasRe V V' B l m) : TOK V' B N (mkT (zipT ts m)) a :=
  ⟨h.size, fun t v hl => by
    rw [mkT_get] at hl
    obtain ⟨x, y, rfl, h1, h2⟩ := zipT_re hs hl
    obtain ⟨u, h3, h4⟩ := h.look t (.a x) (by rw [mkT_get]; exact h1)
    exact ⟨u, h3, h2 u h4⟩, h.defers⟩
def exOk (ex : Ex) : SV → Bool
  | .tup (.c (.lit (.int .u64 (.ofNat k))) :: _) => Nat.beq k ex.code
  | _ => false
theorem exOk_ok {ex : Ex} {v : SV} (h : exOk ex v = true) : ∃ l, v = exV ex l := by
  unfold exOk at h
  split at h
  · rename_i k l
    have := Nat.eq_of_beq_eq_true h
    subst this
    exact ⟨l, rfl⟩
  · simp at h
def PT.full : PT → Bool
  | .done _ _ _ _ => true
  | .row _ r => r.full
  | .test _ y n => y.full && n.full
  | .stop => false
theorem PT.post_ex {V : VE FD} {K : Mem → SV → Prop} : ∀ {t : PT}, t.full = true → t.post V K → ∃ m v, K m v
  | .done m _ _ v, _, hp => ⟨m, v, hp⟩
  | .row _ r, h, hp => PT.post_ex (t := r) h hp.2
  | .test _ y n, h, hp => by
    simp only [PT.full, Bool.and_eq_true] at h
    rcases hp with ⟨_, hp⟩ | ⟨_, hp⟩
    · exact PT.post_ex h.1 hp
    · exact PT.post_ex h.2 hp
  | .stop, h, _ => by simp [PT.full] at h
/-- a tree of which no more is wanted than the kinds -/
theorem post_res {t : PT} {n : Nat} {sh : List SA} {mem : Mem} {req same : List Nat} {ex : Ex} {ne ni : Nat} {ks : List Nat} {V : VE FD} {K : Mem → SV → Prop} (h : t.allK (fun ni ks m v => goodOk n sh mem req same ni ks m v && exOk ex v) ne ni ks = true) (hf : t.full = true) (hk : KsOK V ni ks) (hp : t.post V K) :
    Res V K n sh mem req ex fun V2 => ∀ i ∈ same, V2.it i = V.it i := by
  have h2 := PT.allK_ok (R := fun m v => Good V n sh mem req same m v ∧ ∃ l, v = exV ex l) (fun _ _ _ _ h hk => by
    simp only [Bool.and_eq_true] at h
    exact ⟨goodOk_ok h.1 hk, exOk_ok h.2⟩) h hk hp
  obtain ⟨m, v, hK, hg, l, hl⟩ := PT.post_ex hf h2
  exact ⟨m, v, l, hl, hK, same, hg, hg.same⟩
section
variable {P : Program}
theorem Res.go {S : Nat → Nat → Prop} {w0 : World} {N n : Nat} {c : List Code} {T0 : List (Nat × SV)} {ts : Nat → List Nat} {mem : Mem} {V V' : VE FD} {nn : Nat} {sh : List SA} {mem2 : Mem} {req : List Nat} {ex : Ex} {F : VE FD → Prop}
    (h : Res V' (SegN P S w0 N n c T0 ts mem V V') nn sh mem2 req ex F) {B : Bs} {a : Act} {w : World} (ha : TOK V B N (mkT T0) a) (hw : Rep S w0 V B ⟨mem, 0, 0, [], []⟩ w) {Q : Exit → Act → World → Prop}
    (hQ : ∀ V2, V2.el 0 = V'.el 0 → KsOK V2 nn req → F V2 → ∀ (X : Bs) (a' : Act) (w' : World), TOK V2 ((B ++ X).take mem2.length) N (mkT (zipT (ts ex.code) sh)) a' → Rep S w0 V2 ((B ++ X).take mem2.length) ⟨mem2, 0, 0, [], []⟩ w' → Exit.then (wpL P Q (dropF n c)) Q ex.of a' w') : wpL P Q c a w := by
  obtain ⟨m, v, l, hv, hK, same, hg, hF⟩ := h
  exact hK.go hv hg ha hw (hQ _ rfl hg.kinds hF)
theorem Res.go' {S : Nat → Nat → Prop} {w0 : World} {N n : Nat} {c : List Code} {T0 : List (Nat × SV)} {ts : Nat → List Nat} {mem : Mem} {V V' : VE FD} {nn : Nat} {sh : List SA} {mem2 : Mem} {req : List Nat} {ex : Ex} {F : VE FD → Prop}
    (h : Res V' (SegN P S w0 N n c T0 ts mem V V') nn sh mem2 req ex F) (hlen : mem2.length = mem.length) {B : Bs} {a : Act} {w : World} (ha : TOK V B N (mkT T0) a) (hw : Rep S w0 V B ⟨mem, 0, 0, [], []⟩ w) {Q : Exit → Act → World → Prop}
    (hQ : ∀ V2, V2.el 0 = V'.el 0 → KsOK V2 nn req → F V2 → ∀ (a' : Act) (w' : World), TOK V2 B N (mkT (zipT (ts ex.code) sh)) a' → Rep S w0 V2 B ⟨mem2, 0, 0, [], []⟩ w' → Exit.then (wpL P Q (dropF n c)) Q ex.of a' w') : wpL P Q c a w := by
  obtain ⟨m, v, l, hv, hK, same, hg, hF⟩ := h
  exact hK.go' hv hg hlen ha hw (hQ _ rfl hg.kinds hF)
end
/-! what the pieces come to, aas shapes -/
def all27 : List Nat := [0, 1, 2, 3, 4, 5, 6, 7, 8, 9, 10, 11, 12, 13, 14, 15, 16, 17, 18, 19, 20, 21, 22, 23, 24, 25, 26]
def sB1 : List Nat := [0, 1, 2, 3, 4, 5, 6, 7, 8, 9, 10, 11, 12, 13, 14, 15, 16, 17, 18, 19, 22, 23, 24, 25, 26]
def kI0 : List Nat := [4, 1, 1, 1, 4, 4, 4, 4, 0, 4, 1, 1, 1, 1, 1, 1, 1, 1, 1, 1, 1, 1, 1, 1, 1, 1, 1, 1, 1, 1]
def all30 : List Nat := 27 :: 28 :: 29 :: all27
theorem iA_res {V : VE FD} {K : Mem → SV → Prop} (hk : KsOK V 27 kM) (hp : iA.post V K) :
    (V.it 26 % 2 = 0 ∧ V.it 0 = 0 ∧ V.it 1 = 0 ∧ V.it 2 = 0 ∧ V.it 3 = 0 ∧ Res V K 27 shM memM kM (.exit 0) fun V2 => ∀ i ∈ all27, V2.it i = V.it i) ∨ ((V.it 26 % 2 = 1 ∨ va V ≠ 0) ∧ Res V K 27 shM memM kM .normal fun V2 => ∀ i ∈ all27, V2.it i = V.it i) := by
  have wx : ∀ i, i < 20 → isW (V.it i) := fun i hi => KsOK_word hk (by kernel_rfl) i hi
  have w26 : isW (V.it 26) := hk.1
  have hp := post_good (n := 27) (sh := shM) (mem := memM) (req := kM) (same := all27) (ne := 1) (by kernel_rfl) hk hp
  rcases iA_val (wx 0 (by omega)) (wx 1 (by omega)) (wx 2 (by omega)) (wx 3 (by omega)) w26 hp with ⟨h1, h2, h3, h4, h5, h6, h7⟩ | ⟨h1, h6, h7⟩
  · exact .inl ⟨h1, h2, h3, h4, h5, _, _, _, rfl, h6, _, h7, h7.same⟩
  · exact .inr ⟨h1, _, _, _, rfl, h6, _, h7, h7.same⟩
theorem iB1_res {V : VE FD} {K : Mem → SV → Prop} (hk : KsOK V 27 kM) (hp : iB1.post V K) :
    ∃ n : Nat, (n = blen (va V) ∨ n = blen (vb V)) ∧ blen (va V) ≤ n ∧ blen (vb V) ≤ n ∧ Res V K 30 shI memM kI0 .normal fun V2 => (∀ i ∈ sB1, V2.it i = V.it i) ∧ V2.it 20 = 1 ∧ V2.it 21 = 4294967296 ∧
      V2.it 27 = apx (val4I (V.it 0) (V.it 1) (V.it 2) (V.it 3)) n ∧ V2.it 28 = apx (val4I (V.it 4) (V.it 5) (V.it 6) (V.it 7)) n ∧ V2.it 29 = 0 := by
  have hp := post_good (n := 30) (sh := shI) (mem := memM) (req := kI0) (same := sB1) (ne := 1) (by kernel_rfl) hk hp
  obtain ⟨n, h1, h2, h3, h4, h5, h6, h7⟩ := iB1_val hp
  refine ⟨n, h1, h2, h3, _, _, _, rfl, h6, _, h7, h7.same, ?_, ?_, ?_, ?_, ?_⟩
  · rfl
  · rfl
  · rw [← h4]; rfl
  · rw [← h5]; rfl
  · rfl
theorem iIn_res {V : VE FD} {K : Mem → SV → Prop} {s : In} {j : Nat} (hk : KsOK V 30 kI0) (hj : V.it 29 = j) (hj31 : j ≤ 31) (ha : V.it 27 = s.a) (hb : V.it 28 = s.b) (hc0 : V.it 20 = pk s.f0 s.g0) (hc1 : V.it 21 = pk s.f1 s.g1) (hp : iIn.post V K) :
    (j < 31 ∧ Res V K 30 shI memM kI0 .normal fun V2 => (∀ i ∈ sB1, V2.it i = V.it i) ∧ V2.it 20 = pk s.step.f0 s.step.g0 ∧ V2.it 21 = pk s.step.f1 s.step.g1 ∧ V2.it 27 = s.step.a ∧ V2.it 28 = s.step.b ∧ V2.it 29 = ((j + 1 : Nat) : Int)) ∨
    (j = 31 ∧ Res V K 30 shI memM kI0 (.exit 2) fun V2 => ∀ i ∈ all30, V2.it i = V.it i) := by
  have wa : isW (V.it 27) := hk.2.2.1
  have wb : isW (V.it 28) := hk.2.1
  have hp := PT.allK_ok (R := fun m v => (exOk .normal v = true → Good V 30 shI memM kI0 sB1 m v) ∧ (exOk (.exit 2) v = true → Good V 30 shI memM kI0 (all30) m v)) (t := iIn) (ne := 1) (f := fun ni ks m v => (!exOk .normal v || goodOk 30 shI memM kI0 sB1 ni ks m v) && (!exOk (.exit 2) v || goodOk 30 shI memM kI0 (all30) ni ks m v))
    (fun _ _ _ _ h hk => by
      simp only [Bool.and_eq_true, Bool.or_eq_true, Bool.not_eq_true'] at h
      exact ⟨fun he => by rcases h.1 with h | h; (· rw [he] at h; cases h); exact goodOk_ok h hk, fun he => by rcases h.2 with h | h; (· rw [he] at h; cases h); exact goodOk_ok h hk⟩) (by kernel_rfl) hk hp
  rcases iIn_val hj hj31 ha hb wa wb hc0 hc1 hp with ⟨h1, c0, c1, a, b, j', e0, e1, ea, eb, ej, ⟨h6, h7, _⟩, hc⟩ | ⟨h1, h6, _, h7⟩
  · have h7 := h7 rfl
    refine .inl ⟨h1, ?_⟩
    rcases hc with ⟨rfl, rfl, rfl, rfl, rfl⟩ | ⟨rfl, rfl, rfl, rfl, rfl⟩ | ⟨rfl, rfl, rfl, rfl, rfl⟩
    · exact ⟨_, _, _, rfl, h6, _, h7, h7.same, e0, e1, ea, eb, ej⟩
    · exact ⟨_, _, _, rfl, h6, _, h7, h7.same, e0, e1, ea, eb, ej⟩
    · exact ⟨_, _, _, rfl, h6, _, h7, h7.same, e0, e1, ea, eb, ej⟩
  · have h7 := h7 rfl
    exact .inr ⟨h1, _, _, _, rfl, h6, _, h7, h7.same⟩
theorem iB3c_res {V : VE FD} {K : Mem → SV → Prop} (hk : KsOK V 29 k4) (hp : iB3c.post V K) :
    (V.it 26 % 2 = 1 ∧ ∃ m v l, v = exV .normal l ∧ K m v ∧ Good V 29 (sh4 ++ [.c (.lit (.bool true))]) memM k4 (27 :: 28 :: all27) m v) ∨ (V.it 26 % 2 = 0 ∧ ∃ m v l, v = exV .normal l ∧ K m v ∧ Good V 29 (sh4 ++ [.c (.lit (.bool false))]) memM k4 (27 :: 28 :: all27) m v) := by
  have w26 : isW (V.it 26) := hk.2.2.1
  obtain ⟨h29, hp⟩ := hp
  have hk2 := rowK_holds (ne := 1) (ni := 29) (ks := k4) (ne' := 1) (ni' := 30) (ks' := 1 :: k4) (by kernel_rfl) hk h29
  have h29 : V.it 29 = ibinF .and .u64 (V.it 26) 1 := h29
  rw [and1 w26] at h29
  rcases hp with ⟨ht, hK⟩ | ⟨ht, hK⟩
  · have ht : V.it 29 = 1 := cmp_eq_t ht
    exact .inl ⟨by omega, _, _, _, rfl, hK, goodOk_ok (by kernel_rfl) hk2⟩
  · have ht : V.it 29 ≠ 1 := cmp_eq_f ht
    exact .inr ⟨by omega, _, _, _, rfl, hK, goodOk_ok (by kernel_rfl) hk2⟩
def sD : List Nat := [0, 1, 2, 3, 4, 5, 6, 7, 26]
theorem iB3d_res {V : VE FD} {K : Mem → SV → Prop} (hk : KsOK V 29 k4) (hp : iB3d.post V K) : Res V K 28 sh5 memM k3 .normal fun V2 => ∀ i ∈ sD, V2.it i = V.it i := post_res (ne := 1) (by kernel_rfl) (by kernel_rfl) hk hp
theorem iB3e_res {V : VE FD} {K : Mem → SV → Prop} (hk : KsOK V 28 k3) (hp : iB3e.post V K) : Res V K 27 shM memM kM .normal fun V2 => ∀ i ∈ sD, V2.it i = V.it i := post_res (ne := 1) (by kernel_rfl) (by kernel_rfl) hk hp
theorem iB3f_res {V : VE FD} {K : Mem → SV → Prop} (hk : KsOK V 29 k4) (hp : iB3f.post V K) : Res V K 27 shM memM kM .normal fun V2 => ∀ i ∈ sD, V2.it i = V.it i := post_res (ne := 1) (by kernel_rfl) (by kernel_rfl) hk hp
theorem iI_res {V : VE FD} {K : Mem → SV → Prop} (hk : KsOK V 27 kM) (hp : iI.post V K) : Res V K 27 shM memM kM .normal fun V2 => (∀ i ∈ [0, 1, 2, 3, 4, 5, 6, 7], V2.it i = V.it i) ∧ V2.it 26 = (V.it 26 + 1) % 2 ^ 64 := by
  have hp := post_good (n := 27) (sh := shM) (mem := memM) (req := kM) (same := [0, 1, 2, 3, 4, 5, 6, 7]) (ne := 1) (by kernel_rfl) hk hp
  obtain ⟨h27, hK, hg⟩ := hp
  have h27 : V.it 27 = (V.it 26 + 1) % 2 ^ 64 := h27
  refine ⟨_, _, _, rfl, hK, _, hg, hg.same, ?_⟩
  rw [← h27]; rfl
def kT : List Nat := [0, 0, 0, 1, 1, 1, 1, 1, 1, 1, 1, 1, 1, 1, 1, 1]
theorem iT1_res {V : VE FD} {K : Mem → SV → Prop} (hk : KsOK V 27 kM) (hp : iT1.post V K) : Res V K 16 shT memT kT .normal fun V2 => ∀ i, i < 4 → V2.it i = V.it (12 + i) := by
  have hp := post_good (n := 16) (sh := shT) (mem := memT) (req := kT) (same := []) (ne := 1) (by kernel_rfl) hk hp
  obtain ⟨hK, hg⟩ := hp
  refine ⟨_, _, _, rfl, hK, _, hg, fun i hi => ?_⟩
  match i, hi with
  | 0, _ => rfl
  | 1, _ => rfl
  | 2, _ => rfl
  | 3, _ => rfl
/-! a run that only squares and multiplies: each name is a power of the first -/
def nthE (n : Nat) (env : List Nat) (i : Nat) : Option Nat := match Nat.blt i n with
  | true => nthK env (n - 1 - i)
  | false => none
def powEnd : PT → Nat → List Nat → Option (Mem × SV × Nat × List Nat)
  | .done mem _ _ v, n, env => some (mem, v, n, env)
  | .row (.eun i 0 (.var j)) r, n, env => match Nat.beq i n, nthE n env j with
    | true, some e => powEnd r (n + 1) ((e + e) :: env)
    | _, _ => none
  | .row (.ebin i 0 (.var j) (.var k)) r, n, env => match Nat.beq i n, nthE n env j, nthE n env k with
    | true, some e, some f => powEnd r (n + 1) ((e + f) :: env)
    | _, _, _ => none
  | _, _, _ => none
def Pows (V : VE FD) (x : Fp) : Nat → List Nat → Prop
  | 0, [] => True
  | n + 1, e :: r => (show Fp from V.el n).val = x.val ^ e % pP ∧ Pows V x n r
  | _, _ => False
theorem Pows.get {V : VE FD} {x : Fp} : ∀ {n : Nat} {env : List Nat}, Pows V x n env → ∀ {j e : Nat}, j < n → nthK env j = some e → (show Fp from V.el (n - 1 - j)).val = x.val ^ e % pP
  | 0, [], _, j, k, hj, _ => by omega
  | n + 1, e0 :: r, h, 0, e, _, he => by simp only [nthK, Option.some.injEq] at he; subst he; exact h.1
  | n + 1, e0 :: r, h, j + 1, e, _, he => by
    have := Pows.get h.2 (j := j) (e := e) (by omega) he
    rwa [show n + 1 - 1 - (j + 1) = n - 1 - j by omega]
  | 0, _ :: _, h, _, _, _, _ => h.elim
  | _ + 1, [], h, _, _, _, _ => h.elim
theorem nthE_ok {V : VE FD} {x : Fp} {n : Nat} {env : List Nat} (h : Pows V x n env) {i e : Nat} (he : nthE n env i = some e) : (show Fp from V.el i).val = x.val ^ e % pP := by
  unfold nthE at he
  split at he
  · rename_i hlt
    have hlt : i + 1 ≤ n := Nat.le_of_ble_eq_true hlt
    have := h.get (j := n - 1 - i) (by omega) he
    rwa [show n - 1 - (n - 1 - i) = i by omega] at this
  · simp at he
theorem powEnd_ok {V : VE FD} {x : Fp} {K : Mem → SV → Prop} : ∀ (t : PT) {n : Nat} {env : List Nat} {mem : Mem} {v : SV} {n' : Nat} {env' : List Nat}, powEnd t n env = some (mem, v, n', env') → Pows V x n env → t.post V K → K mem v ∧ Pows V x n' env'
  | .done mem _ _ v, n, env, mem', v', n', env', h, hp, hk => by
    simp only [powEnd, Option.some.injEq, Prod.mk.injEq] at h
    obtain ⟨rfl, rfl, rfl, rfl⟩ := h
    exact ⟨hk, hp⟩
  | .row o r, n, env, mem', v', n', env', h, hp, hk => by
    unfold powEnd at h
    split at h
    · rename_i heq; cases heq
    · rename_i i j r' heq
      simp only [PT.row.injEq] at heq
      obtain ⟨rfl, rfl⟩ := heq
      split at h
      · rename_i e hi he
        have hi := Nat.eq_of_beq_eq_true hi
        subst hi
        refine powEnd_ok r h ⟨?_, hp⟩ hk.2
        have h1 : V.el i = fpUn 0 (V.el j) := hk.1
        have h2 := nthE_ok hp he
        show (show Fp from V.el i).val = _
        rw [h1]
        show (show Fp from V.el j).val * (show Fp from V.el j).val % pP = _
        rw [h2, ← Nat.mul_mod, ← Nat.pow_add]
      · simp at h
    · rename_i i j k r' heq
      simp only [PT.row.injEq] at heq
      obtain ⟨rfl, rfl⟩ := heq
      split at h
      · rename_i e f hi he hf
        have hi := Nat.eq_of_beq_eq_true hi
        subst hi
        refine powEnd_ok r h ⟨?_, hp⟩ hk.2
        have h1 : V.el i = fpBin 0 (V.el j) (V.el k) := hk.1
        have h2 := nthE_ok hp he
        have h3 := nthE_ok hp hf
        show (show Fp from V.el i).val = _
        rw [h1]
        show (show Fp from V.el j).val * (show Fp from V.el k).val % pP = _
        rw [h2, h3, ← Nat.mul_mod, ← Nat.pow_add]
      · simp at h
    · simp at h
  | .test _ _ _, n, env, mem', v', n', env', h, hp, hk => by simp [powEnd] at h
  | .stop, n, env, mem', v', n', env', h, hp, hk => by simp [powEnd] at h
theorem fpInv_val (a : Fp) : (fpInv a).val = powM pP 256 a.val (pP - 2) := rfl
theorem inv_eq (a : Fp) : Fld.inv a = fpInv a := rfl
theorem e_lt : pP - 2 < 2 ^ 256 := Nat.lt_trans (Nat.lt_of_le_of_lt (Nat.sub_le _ _) pP_lt) (by decide)
theorem zero_pow_mod {e n : Nat} (he : 0 < e) : 0 ^ e % n = 0 := by rw [Nat.zero_pow he, Nat.zero_mod]
theorem fpInv_of {x y : Fp} (h : y.val = x.val ^ (pP - 2) % pP) : y = (if x = 0 then 0 else Fld.inv x) := by
  have h1 : (fpInv x).val = y.val := by rw [fpInv_val, powM_eq _ _ _ _ e_lt, h]
  split
  · rename_i h0
    subst h0
    apply Fin.ext
    rw [h]
    have h2 : (0 : Fp).val = 0 := rfl
    rw [h2]
    exact zero_pow_mod (by decide)
  · rw [inv_eq]; exact (Fin.ext h1).symm
end Go.Proofs.YtnmkmbjbaagojaaGreatDoor
