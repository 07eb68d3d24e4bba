/- A part of the proof of laws.FnPairUneven. -/
import Derived.Test.YtnmkmbjbaagojaaGreatDoorK22
import Derived.Test.YtnmkmbjbaagojaaGreatDoorK26
namespace Go.Proofs.YtnmkmbjbaagojaaGreatDoor
open Go
set_option maxRecDepth 100000
set_option linter.unusedVariables false
set_option linter.unusedSimpArgs false
/-! the tables' functions on numbers, all names packed in one number -/
def forceN {α : Type} (n : Nat) (k : Nat → α) : α := match n with
  | 0 => k 0
  | m + 1 => k (Nat.succ m)
theorem forceN_eq {α : Type} (n : Nat) (k : Nat → α) : forceN n k = k n := by cases n <;> rfl
def P256 : Nat := 115792089237316195423570985008687907853269984665640564039457584007913129639936
theorem P256_eq : P256 = 2 ^ 256 := by decide
def getP (E d : Nat) : Nat := Nat.mod (Nat.shiftRight E (Nat.mul 256 d)) P256
def putP (E v : Nat) : Nat := Nat.add (Nat.shiftLeft E 256) v
theorem getP_eq (E d : Nat) : getP E d = E / 2 ^ (256 * d) % 2 ^ 256 := by
  show (E >>> (256 * d)) % P256 = _
  rw [Nat.shiftRight_eq_div_pow, P256_eq]
theorem putP_eq (E v : Nat) : putP E v = E * 2 ^ 256 + v := by
  show E <<< 256 + v = _
  rw [Nat.shiftLeft_eq]
theorem getP_new {E v : Nat} (hv : v < 2 ^ 256) : getP (putP E v) 0 = v := by
  rw [getP_eq, putP_eq, Nat.mul_zero, Nat.pow_zero, Nat.div_one, show E * 2 ^ 256 + v = v + 2 ^ 256 * E by omega, Nat.add_mul_mod_self_left, Nat.mod_eq_of_lt hv]
theorem getP_old {E v : Nat} (hv : v < 2 ^ 256) (d : Nat) : getP (putP E v) (d + 1) = getP E d := by
  rw [getP_eq, getP_eq, putP_eq]
  have e : 2 ^ (256 * (d + 1)) = 2 ^ 256 * 2 ^ (256 * d) := by rw [← Nat.pow_add]; congr 1; omega
  rw [e, ← Nat.div_div_eq_div_mul]
  have e2 : (E * 2 ^ 256 + v) / 2 ^ 256 = E := by
    rw [Nat.mul_comm, Nat.mul_add_div (Nat.two_pow_pos _), Nat.div_eq_of_lt hv, Nat.add_zero]
  rw [e2]
def binN : Nat → Nat → Nat → Nat
  | 0, x, y => Nat.mod (Nat.mul x y) pP
  | 1, x, y => Nat.mod (Nat.add x y) pP
  | 2, x, y => Nat.mod (Nat.add (Nat.sub pP y) x) pP
  | _, x, _ => x
def unN : Nat → Nat → Nat
  | 0, x => Nat.mod (Nat.mul x x) pP
  | 1, x => Nat.mod (Nat.add x x) pP
  | 2, x => Nat.mod (Nat.sub pP x) pP
  | 3, x => match x with
    | 0 => 0
    | m + 1 => powM pP 256 (m + 1) (pP - 2)
  | _, x => x
theorem binN_eq (k : Nat) (x y : Fp) : binN k x.val y.val = (fpBin k x y).val := by
  match k with
  | 0 => rfl
  | 1 => rfl
  | 2 => rfl
  | _ + 3 => rfl
theorem unN_eq (k : Nat) (x : Fp) : unN k x.val = (fpUn k x).val := by
  match k with
  | 0 => rfl
  | 1 => rfl
  | 2 => rfl
  | 3 =>
    show (match x.val with | 0 => 0 | m + 1 => powM pP 256 (m + 1) (pP - 2)) = (if x = 0 then 0 else fpInv x).val
    by_cases h : x = 0
    · subst h; rfl
    · rw [if_neg h, fpInv_val]
      have : x.val ≠ 0 := fun e => h (Fin.ext e)
      obtain ⟨m, hm⟩ : ∃ m, x.val = m + 1 := ⟨x.val - 1, by omega⟩
      rw [hm]
  | _ + 4 => rfl
def feP (E ne : Nat) : FE → Option Nat
  | .var i => match Nat.blt i ne with
    | true => some (getP E (Nat.sub (Nat.sub ne 1) i))
    | false => none
  | .lit a b c d => some (unmont (val4 a b c d)).val
def fesP (E ne : Nat) : List FE → Option (List Nat)
  | [] => some []
  | x :: r => match feP E ne x with
    | some v => forceN v fun v => match fesP E ne r with
      | some l => some (v :: l)
      | none => none
    | none => none
/-- several values at the end -/
def putsP {α : Type} (E ne : Nat) : List Nat → (Nat → Nat → α) → α
  | [], k => k E ne
  | x :: r, k => forceN (putP E x) fun E => forceN (Nat.add ne 1) fun ne => putsP E ne r k
def rowsP (G : Nat → List Nat → Option (List Nat)) : List TOp → Nat → Nat → Option (Nat × Nat)
  | [], E, ne => some (E, ne)
  | o :: r, E, ne => match o with
    | .ebin i k x y => match Nat.beq i ne, feP E ne x, feP E ne y with
      | true, some a, some b => putsP E ne [binN k a b] fun E ne => rowsP G r E ne
      | _, _, _ => none
    | .eun i k x => match Nat.beq i ne, feP E ne x with
      | true, some a => putsP E ne [unN k a] fun E ne => rowsP G r E ne
      | _, _ => none
    | .ef i n k xs => match Nat.beq i ne, fesP E ne xs with
      | true, some l => match G k l with
        | some l' => match Nat.beq l'.length n with
          | true => putsP E ne l' fun E ne => rowsP G r E ne
          | false => none
        | none => none
      | _, _ => none
    | _ => none
def slpP (G : Nat → List Nat → Option (List Nat)) (t : SLP) (xs : List Nat) : Option (List Nat) :=
  putsP 0 0 xs fun E ne => match rowsP G t.rows E ne with
    | some (E', ne') => fesP E' ne' t.outs
    | none => none
/-- the packed number and the names' values -/
structure OkP (e : Nat → Fp) (E ne : Nat) : Prop where
  get : ∀ i, i < ne → getP E (ne - 1 - i) = (e i).val
theorem fp_lt256 (x : Fp) : x.val < 2 ^ 256 := Nat.lt_trans x.isLt (by decide)
theorem OkP.put {e : Nat → Fp} {E ne : Nat} (h : OkP e E ne) (x : Fp) : OkP (fun j => if j = ne then x else e j) (putP E x.val) (ne + 1) :=
  ⟨fun i hi => by
    show _ = (if i = ne then x else e i).val
    by_cases c : i = ne
    · rw [if_pos c, c, show ne + 1 - 1 - ne = 0 by omega, getP_new (fp_lt256 x)]
    · rw [if_neg c, show ne + 1 - 1 - i = (ne - 1 - i) + 1 by omega, getP_old (fp_lt256 x)]; exact h.get i (by omega)⟩
theorem feP_ok {e : Nat → Fp} {E ne : Nat} (h : OkP e E ne) {x : FE} {a : Nat} (hx : feP E ne x = some a) : a = (feE e x).val := by
  cases x with
  | var i =>
    simp only [feP] at hx
    split at hx
    · rename_i hb
      have hb : i < ne := Nat.le_of_ble_eq_true hb
      have hx := Option.some.inj hx
      rw [← hx]; exact h.get i hb
    · simp at hx
  | lit p q r s => exact (Option.some.inj hx).symm
theorem fesP_ok {e : Nat → Fp} {E ne : Nat} (h : OkP e E ne) : ∀ {xs : List FE} {l : List Nat}, fesP E ne xs = some l → l = (xs.map (feE e)).map (·.val)
  | [], l, hx => by simp only [fesP, Option.some.injEq] at hx; subst hx; rfl
  | x :: r, l, hx => by
    unfold fesP at hx
    split at hx
    · rename_i v hv
      rw [forceN_eq] at hx
      split at hx
      · rename_i l' hl
        simp only [Option.some.injEq] at hx; subst hx
        rw [List.map_cons, List.map_cons, feP_ok h hv, fesP_ok h hl]
      · simp at hx
    · simp at hx
theorem putsP_ok {α : Type} : ∀ (l : List Fp) {e : Nat → Fp} {E ne : Nat} (k : Nat → Nat → α), OkP e E ne → ∃ E', putsP E ne (l.map (·.val)) k = k E' (ne + l.length) ∧ OkP (fun j => if ne ≤ j ∧ j < ne + l.length then l.getD (j - ne) 0 else e j) E' (ne + l.length)
  | [], e, E, ne, k, h => ⟨E, rfl, ⟨fun i hi => by
    show _ = (if ne ≤ i ∧ i < ne + 0 then _ else e i).val
    rw [if_neg (by omega)]; exact h.get i hi⟩⟩
  | x :: l, e, E, ne, k, h => by
    obtain ⟨E', h1, h2⟩ := putsP_ok l k (h.put x)
    refine ⟨E', ?_, ?_⟩
    · show forceN (putP E x.val) (fun E => forceN (ne + 1) fun ne => putsP E ne (l.map (·.val)) k) = _
      rw [forceN_eq, forceN_eq, h1, List.length_cons, show ne + 1 + l.length = ne + (l.length + 1) by omega]
    · have e1 : ne + 1 + l.length = ne + (x :: l).length := by rw [List.length_cons]; omega
      rw [e1] at h2
      refine ⟨fun i hi => ?_⟩
      have h3 := h2.get i hi
      rw [h3]
      show (if ne + 1 ≤ i ∧ i < ne + (x :: l).length then l.getD (i - (ne + 1)) 0 else if i = ne then x else e i).val = (if ne ≤ i ∧ i < ne + (x :: l).length then (x :: l).getD (i - ne) 0 else e i).val
      by_cases c1 : ne + 1 ≤ i ∧ i < ne + (x :: l).length
      · rw [if_pos c1, if_pos (by omega), show i - ne = (i - (ne + 1)) + 1 by omega, List.getD_cons_succ]
      · rw [if_neg c1]
        by_cases c2 : i = ne
        · subst c2
          rw [if_pos rfl, if_pos (by rw [List.length_cons]; omega), Nat.sub_self, List.getD_cons_zero]
        · rw [if_neg c2, if_neg (by omega)]
theorem putsP_ok' {α : Type} {l : List Fp} {ns : List Nat} (hn : ns = l.map (·.val)) {e : Nat → Fp} {E ne : Nat} (k : Nat → Nat → α) (h : OkP e E ne) :
    ∃ E', putsP E ne ns k = k E' (ne + l.length) ∧ OkP (fun j => if ne ≤ j ∧ j < ne + l.length then l.getD (j - ne) 0 else e j) E' (ne + l.length) := by
  subst hn; exact putsP_ok l k h
theorem one_fun (e : Nat → Fp) (i : Nat) (v : Fp) : (fun j => if j = i then v else e j) = fun j => if i ≤ j ∧ j < i + [v].length then [v].getD (j - i) 0 else e j := by
  funext j
  by_cases c : j = i
  · subst c; rw [if_pos rfl, if_pos (by simp)]; simp
  · rw [if_neg c, if_neg (by simp; omega)]
theorem rowsP_ok {G : Nat → List Nat → Option (List Nat)} {F : Nat → List Fp → List Fp} (hG : ∀ k (l : List Fp) ns, G k (l.map (·.val)) = some ns → ns = (F k l).map (·.val)) : ∀ {rows : List TOp} {E ne E' ne' : Nat} {e : Nat → Fp}, rowsP G rows E ne = some (E', ne') → OkP e E ne → OkP (runE F rows e) E' ne'
  | [], E, ne, E', ne', e, h, he => by simp only [rowsP, Option.some.injEq, Prod.mk.injEq] at h; obtain ⟨rfl, rfl⟩ := h; exact he
  | o :: r, E, ne, E', ne', e, h, he => by
    unfold rowsP at h
    show OkP (runE F r (stepE F e o)) E' ne'
    split at h
    · split at h
      · rename_i i k x y _ _ _ a b hi hx hy
        have hi := Nat.eq_of_beq_eq_true hi
        subst hi
        have ea := feP_ok he hx
        have eb := feP_ok he hy
        subst ea; subst eb
        obtain ⟨E2, h1, h2⟩ := putsP_ok' (ns := [binN k (feE e x).val (feE e y).val]) (l := [fpBin k (feE e x) (feE e y)]) (by rw [binN_eq]; rfl) (fun E ne => rowsP G r E ne) he
        rw [h1] at h
        refine rowsP_ok hG h ?_
        have e1 : stepE F e (.ebin i k x y) = _ := one_fun e i (fpBin k (feE e x) (feE e y))
        rw [e1]; exact h2
      · simp at h
    · split at h
      · rename_i i k x _ _ a hi hx
        have hi := Nat.eq_of_beq_eq_true hi
        subst hi
        have ea := feP_ok he hx
        subst ea
        obtain ⟨E2, h1, h2⟩ := putsP_ok' (ns := [unN k (feE e x).val]) (l := [fpUn k (feE e x)]) (by rw [unN_eq]; rfl) (fun E ne => rowsP G r E ne) he
        rw [h1] at h
        refine rowsP_ok hG h ?_
        have e1 : stepE F e (.eun i k x) = _ := one_fun e i (fpUn k (feE e x))
        rw [e1]; exact h2
      · simp at h
    · split at h
      · rename_i i n k xs _ _ l hi hx
        have hi := Nat.eq_of_beq_eq_true hi
        subst hi
        have el := fesP_ok he hx
        subst el
        split at h
        · rename_i l' hl
          split at h
          · rename_i hlen
            have hlen := Nat.eq_of_beq_eq_true hlen
            have hl' := hG _ _ _ hl
            obtain ⟨E2, h1, h2⟩ := putsP_ok' hl' (fun E ne => rowsP G r E ne) he
            rw [h1] at h
            refine rowsP_ok hG h ?_
            have hn : (F k (xs.map (feE e))).length = n := by rw [← hlen, hl', List.length_map]
            rw [hn] at h2 ⊢
            have e1 : stepE F e (.ef i n k xs) = fun j => if i ≤ j ∧ j < i + n then (F k (xs.map (feE e))).getD (j - i) 0 else e j := rfl
            rw [e1]; exact h2
          · simp at h
        · simp at h
      · simp at h
    · simp at h
theorem slpP_ok {G : Nat → List Nat → Option (List Nat)} {F : Nat → List Fp → List Fp} (hG : ∀ k (l : List Fp) ns, G k (l.map (·.val)) = some ns → ns = (F k l).map (·.val)) {t : SLP} {xs : List Fp} {ys : List Nat} (h : slpP G t (xs.map (·.val)) = some ys) : ys = (slp F t xs).map (·.val) := by
  unfold slpP at h
  have h0 : OkP (fun _ => (0 : Fp)) 0 0 := ⟨fun i hi => by omega⟩
  obtain ⟨E, h1, h2⟩ := putsP_ok xs (fun E ne => match rowsP G t.rows E ne with
    | some (E', ne') => fesP E' ne' t.outs
    | none => none) h0
  rw [h1] at h
  have h3 : OkP (fun j => xs.getD j (0 : Fp)) E (0 + xs.length) := ⟨fun i hi => by
    rw [h2.get i hi]
    show (if 0 ≤ i ∧ i < 0 + xs.length then xs.getD (i - 0) (0 : Fp) else (0 : Fp)).val = _
    rw [if_pos (by omega)]; rfl⟩
  split at h
  · rename_i E' ne' hr
    exact fesP_ok (rowsP_ok hG hr h3) h
  · simp at h
def mkFp (n : Nat) : Fp := ⟨n % pP, Nat.mod_lt _ pP_pos⟩
theorem mkFp_val (x : Fp) : mkFp x.val = x := Fin.ext (Nat.mod_eq_of_lt x.isLt)
theorem map_mkFp : ∀ l : List Fp, (l.map (·.val)).map mkFp = l
  | [] => rfl
  | x :: l => by rw [List.map_cons, List.map_cons, mkFp_val, map_mkFp l]
def efP0 (k : Nat) (xs : List Nat) : Option (List Nat) := match Nat.blt k 100 with
  | true => some ((efB k (xs.map mkFp)).map (·.val))
  | false => none
def efP1 (k : Nat) (xs : List Nat) : Option (List Nat) := match Nat.blt k 100 with
  | true => some ((efB k (xs.map mkFp)).map (·.val))
  | false => slpP efP0 (tbl k) xs
def efP (k : Nat) (xs : List Nat) : Option (List Nat) := match Nat.blt k 200 with
  | true => efP1 k xs
  | false => slpP efP1 (tbl k) xs
theorem blt_false {k n : Nat} (h : Nat.blt k n = false) : ¬ k < n := fun h2 => by
  have : Nat.blt k n = true := Nat.ble_eq_true_of_le h2
  rw [h] at this; simp at this
theorem efP0_ok (k : Nat) (l : List Fp) (ns : List Nat) (h : efP0 k (l.map (·.val)) = some ns) : ns = (efB k l).map (·.val) := by
  unfold efP0 at h
  split at h
  · rw [map_mkFp] at h; exact (Option.some.inj h).symm
  · simp at h
theorem efP1_ok (k : Nat) (l : List Fp) (ns : List Nat) (h : efP1 k (l.map (·.val)) = some ns) : ns = (ef1 k l).map (·.val) := by
  unfold efP1 at h
  unfold ef1
  split at h
  · rename_i hk
    rw [map_mkFp] at h
    rw [if_pos (show k < 100 from Nat.le_of_ble_eq_true hk)]; exact (Option.some.inj h).symm
  · rename_i hk
    rw [if_neg (blt_false hk)]; exact slpP_ok efP0_ok h
theorem efP_ok (k : Nat) (l : List Fp) (ns : List Nat) (h : efP k (l.map (·.val)) = some ns) : ns = (efF k l).map (·.val) := by
  unfold efP at h
  unfold efF ef2
  split at h
  · rename_i hk
    rw [if_pos (show k < 200 from Nat.le_of_ble_eq_true hk)]; exact efP1_ok _ _ _ h
  · rename_i hk
    rw [if_neg (blt_false hk)]; exact slpP_ok efP1_ok h
def efV (k : Nat) (xs : List Fp) : Option (List Fp) := match efP k (xs.map (·.val)) with
  | some ns => some (ns.map mkFp)
  | none => none
theorem efV_ok (k : Nat) (l l' : List Fp) (h : efV k l = some l') : efF k l = l' := by
  unfold efV at h
  split at h
  · rename_i ns hn
    have := efP_ok k l ns hn
    subst this
    rw [map_mkFp] at h
    exact Option.some.inj h
  · simp at h
/-! closed runs: the values of all names, reckoned -/
def forceZ {α : Type} (z : Int) (k : Int → α) : α := match z with
  | .ofNat n => forceN n fun n => k (.ofNat n)
  | .negSucc n => forceN n fun n => k (.negSucc n)
theorem forceZ_eq {α : Type} (z : Int) (k : Int → α) : forceZ z k = k z := by
  cases z with
  | ofNat n => exact forceN_eq n (fun n => k (.ofNat n))
  | negSucc n => exact forceN_eq n (fun n => k (.negSucc n))
def sz (z : Int) : SV := .a (.c (.lit (.int .u64 z)))
def getZ (I : TM) (i : Nat) : Option Int := match I.get i with
  | some (.a (.c (.lit (.int .u64 z)))) => some z
  | _ => none
def getF (E : TM) (i : Nat) : Option Fp := match E.get i with
  | some (.a (.c (.lit (.int .u64 (.ofNat n))))) => some (mkFp n)
  | _ => none
def feV (E : TM) : FE → Option Fp
  | .var i => getF E i
  | .lit a b c d => forceN (unmont (val4 a b c d)).val fun n => some (mkFp n)
def fesV (E : TM) : List FE → Option (List Fp)
  | [] => some []
  | x :: r => match feV E x, fesV E r with
    | some a, some l => some (a :: l)
    | _, _ => none
def ieV (I : TM) : IE → Option Int
  | .var i => getZ I i
  | .lit z => some z
def iesV (I : TM) : List IE → Option (List Int)
  | [] => some []
  | x :: r => match ieV I x, iesV I r with
    | some a, some l => some (a :: l)
    | _, _ => none
def putFs {α : Type} (E : TM) (i : Nat) : List Fp → (TM → α) → α
  | [], k => k E
  | x :: r, k => forceN x.val fun n => putFs (E.put i (sz (.ofNat n))) (i + 1) r k
def putZs {α : Type} (I : TM) (i : Nat) : List Int → (TM → α) → α
  | [], k => k I
  | x :: r, k => forceZ x fun z => putZs (I.put i (sz z)) (i + 1) r k
def testV (E I : TM) : TOp → Option Bool
  | .t1 k x _ => match feV E x with
    | some a => some (FD.t1 k a)
    | none => none
  | .t2 k x y _ => match feV E x, feV E y with
    | some a, some b => some (FD.t2 k a b)
    | _, _ => none
  | .cmp op x y _ => match ieV I x, ieV I y with
    | some a, some b => some (cmpF op a b)
    | _, _ => none
  | .tm k xs _ => match iesV I xs with
    | some l => some (tmF k l)
    | none => none
  | _ => none
def evalT : PT → TM → TM → Option (Mem × SV × TM × TM)
  | .done m _ _ v, E, I => some (m, v, E, I)
  | .row o r, E, I => match o with
    | .ebin i k x y => match feV E x, feV E y with
      | some a, some b => putFs E i [fpBin k a b] fun E => evalT r E I
      | _, _ => none
    | .eun i k x => match feV E x with
      | some a => putFs E i [fpUn k a] fun E => evalT r E I
      | none => none
    | .ef i n k xs => match fesV E xs with
      | some l => match efV k l with
        | some l' => match Nat.beq l'.length n with
          | true => putFs E i l' fun E => evalT r E I
          | false => none
        | none => none
      | none => none
    | .pf i n k xs => match iesV I xs with
      | some l => match Nat.beq (pfF k l).length n with
        | true => putZs I i (pfF k l) fun I => evalT r E I
        | false => none
      | none => none
    | .ibin i op k x y => match ieV I x, ieV I y with
      | some a, some b => putZs I i [ibinF op k a b] fun I => evalT r E I
      | _, _ => none
    | _ => none
  | .test o y n, E, I => match testV E I o with
    | some true => evalT y E I
    | some false => evalT n E I
    | none => none
  | .stop, _, _ => none
def OkF (V : VE FD) (E : TM) : Prop := ∀ i x, getF E i = some x → V.el i = x
def OkZ (V : VE FD) (I : TM) : Prop := ∀ i z, getZ I i = some z → V.it i = z
theorem OkF.put {V : VE FD} {E : TM} (h : OkF V E) {i : Nat} {x : Fp} (hx : V.el i = x) : OkF V (E.put i (sz (.ofNat x.val))) := by
  intro j y hy
  unfold getF at hy
  rw [TM.get_put] at hy
  by_cases hj : j = i
  · rw [if_pos hj] at hy
    have hy : some (mkFp x.val) = some y := hy
    rw [mkFp_val] at hy
    simp only [Option.some.injEq] at hy
    rw [hj, hx, hy]
  · rw [if_neg hj] at hy
    exact h j y hy
theorem OkZ.put {V : VE FD} {I : TM} (h : OkZ V I) {i : Nat} {z : Int} (hx : V.it i = z) : OkZ V (I.put i (sz z)) := by
  intro j y hy
  unfold getZ at hy
  rw [TM.get_put] at hy
  by_cases hj : j = i
  · rw [if_pos hj] at hy
    have hy : some z = some y := hy
    simp only [Option.some.injEq] at hy
    rw [hj, hx, hy]
  · rw [if_neg hj] at hy
    exact h j y hy
theorem feV_ok {V : VE FD} {E : TM} (h : OkF V E) {x : FE} {a : Fp} (hx : feV E x = some a) : x.den V = a := by
  cases x with
  | var i => exact h i a hx
  | lit p q r s =>
    have hx : (forceN (unmont (val4 p q r s)).val fun n => some (mkFp n)) = some a := hx
    rw [forceN_eq, mkFp_val] at hx
    exact Option.some.inj hx
theorem fesV_ok {V : VE FD} {E : TM} (h : OkF V E) : ∀ {xs : List FE} {l : List Fp}, fesV E xs = some l → xs.map (·.den V) = l
  | [], l, hx => by simp only [fesV, Option.some.injEq] at hx; subst hx; rfl
  | x :: r, l, hx => by
    unfold fesV at hx
    split at hx
    · rename_i a l' h1 h2
      simp only [Option.some.injEq] at hx; subst hx
      rw [List.map_cons, feV_ok h h1, fesV_ok h h2]; rfl
    · simp at hx
theorem ieV_ok {V : VE FD} {I : TM} (h : OkZ V I) {x : IE} {a : Int} (hx : ieV I x = some a) : x.den V = a := by
  cases x with
  | var i => exact h i a hx
  | lit z => exact Option.some.inj hx
theorem iesV_ok {V : VE FD} {I : TM} (h : OkZ V I) : ∀ {xs : List IE} {l : List Int}, iesV I xs = some l → xs.map (·.den V) = l
  | [], l, hx => by simp only [iesV, Option.some.injEq] at hx; subst hx; rfl
  | x :: r, l, hx => by
    unfold iesV at hx
    split at hx
    · rename_i a l' h1 h2
      simp only [Option.some.injEq] at hx; subst hx
      rw [List.map_cons, ieV_ok h h1, iesV_ok h h2]
    · simp at hx
theorem putFs_ok {α : Type} {V : VE FD} : ∀ {l : List Fp} {E : TM} {i : Nat} {k : TM → Option α} {r : α}, OkF V E → (∀ j, j < l.length → l[j]? = some (V.el (i + j))) → putFs E i l k = some r → ∃ E', OkF V E' ∧ k E' = some r
  | [], E, i, k, r, h, _, hr => ⟨E, h, hr⟩
  | x :: l, E, i, k, r, h, hv, hr => by
    unfold putFs at hr
    rw [forceN_eq] at hr
    have h0 := hv 0 (by simp)
    have h0 : some x = some (V.el (i + 0)) := h0
    have h0 := Option.some.inj h0
    refine putFs_ok (h.put h0.symm) (fun j hj => ?_) hr
    have := hv (j + 1) (by simp; omega)
    rw [List.getElem?_cons_succ] at this
    rw [this, show i + (j + 1) = i + 1 + j by omega]
theorem putZs_ok {α : Type} {V : VE FD} : ∀ {l : List Int} {I : TM} {i : Nat} {k : TM → Option α} {r : α}, OkZ V I → (∀ j, j < l.length → l[j]? = some (V.it (i + j))) → putZs I i l k = some r → ∃ I', OkZ V I' ∧ k I' = some r
  | [], E, i, k, r, h, _, hr => ⟨E, h, hr⟩
  | x :: l, E, i, k, r, h, hv, hr => by
    unfold putZs at hr
    rw [forceZ_eq] at hr
    have h0 := hv 0 (by simp)
    have h0 : some x = some (V.it (i + 0)) := h0
    have h0 := Option.some.inj h0
    refine putZs_ok (h.put h0.symm) (fun j hj => ?_) hr
    have := hv (j + 1) (by simp; omega)
    rw [List.getElem?_cons_succ] at this
    rw [this, show i + (j + 1) = i + 1 + j by omega]
theorem range_get? {α : Type} {f : Nat → α} {n : Nat} {l : List α} (h : (List.range n).map f = l) {j : Nat} (hj : j < n) : l[j]? = some (f j) := by
  rw [← h, List.getElem?_map, List.getElem?_range hj]; rfl
theorem testV_ok {V : VE FD} {E I : TM} (hE : OkF V E) (hI : OkZ V I) {o : TOp} {b : Bool} (h : testV E I o = some b) {d : Bool} (hh : (flipT d o).holds V) : d = b := by
  unfold testV at h
  split at h
  · split at h
    · rename_i hx
      simp only [Option.some.injEq] at h
      have hh : FD.t1 _ _ = d := hh
      rw [feV_ok hE hx] at hh
      rw [← hh, h]
    · simp at h
  · split at h
    · rename_i hx hy
      simp only [Option.some.injEq] at h
      have hh : FD.t2 _ _ _ = d := hh
      rw [feV_ok hE hx, feV_ok hE hy] at hh
      rw [← hh, h]
    · simp at h
  · split at h
    · rename_i hx hy
      simp only [Option.some.injEq] at h
      have hh : cmpF _ _ _ = d := hh
      rw [ieV_ok hI hx, ieV_ok hI hy] at hh
      rw [← hh, h]
    · simp at h
  · split at h
    · rename_i hx
      simp only [Option.some.injEq] at h
      have hh : tmF _ _ = d := hh.2
      rw [iesV_ok hI hx] at hh
      rw [← hh, h]
    · simp at h
  · simp at h
theorem evalT_ok {V : VE FD} {K : Mem → SV → Prop} : ∀ {t : PT} {E I : TM} {m : Mem} {v : SV} {E' I' : TM}, evalT t E I = some (m, v, E', I') → OkF V E → OkZ V I → t.post V K → K m v ∧ OkF V E' ∧ OkZ V I'
  | .done m _ _ v, E, I, m', v', E', I', h, hE, hI, hp => by
    simp only [evalT, Option.some.injEq, Prod.mk.injEq] at h
    obtain ⟨rfl, rfl, rfl, rfl⟩ := h
    exact ⟨hp, hE, hI⟩
  | .stop, E, I, m', v', E', I', h, _, _, _ => by simp [evalT] at h
  | .test o y n, E, I, m', v', E', I', h, hE, hI, hp => by
    unfold evalT at h
    split at h
    · rename_i ht
      rcases hp with ⟨h1, h2⟩ | ⟨h1, _⟩
      · exact evalT_ok h hE hI h2
      · have := testV_ok hE hI ht h1; cases this
    · rename_i ht
      rcases hp with ⟨h1, _⟩ | ⟨h1, h2⟩
      · have := testV_ok hE hI ht h1; cases this
      · exact evalT_ok h hE hI h2
    · simp at h
  | .row o r, E, I, m', v', E', I', h, hE, hI, hp => by
    obtain ⟨ho, hp⟩ := hp
    unfold evalT at h
    split at h
    · split at h
      · rename_i i k x y _ _ a b hx hy
        have ho : V.el i = fpBin k _ _ := ho
        rw [feV_ok hE hx, feV_ok hE hy] at ho
        obtain ⟨E2, h2, h3⟩ := putFs_ok hE (fun j hj => by
          have : j = 0 := by simp at hj; omega
          subst this
          show some _ = some (V.el (i + 0))
          rw [Nat.add_zero, ho]) h
        exact evalT_ok h3 h2 hI hp
      · simp at h
    · split at h
      · rename_i i k x _ a hx
        have ho : V.el i = fpUn k _ := ho
        rw [feV_ok hE hx] at ho
        obtain ⟨E2, h2, h3⟩ := putFs_ok hE (fun j hj => by
          have : j = 0 := by simp at hj; omega
          subst this
          show some _ = some (V.el (i + 0))
          rw [Nat.add_zero, ho]) h
        exact evalT_ok h3 h2 hI hp
      · simp at h
    · split at h
      · rename_i i n k xs _ l hx
        split at h
        · rename_i l' hv
          split at h
          · rename_i hl
            have hl := Nat.eq_of_beq_eq_true hl
            have ho : (List.range n).map (fun j => V.el (i + j)) = efF k _ := ho
            rw [fesV_ok hE hx, efV_ok _ _ _ hv] at ho
            obtain ⟨E2, h2, h3⟩ := putFs_ok hE (fun j hj => range_get? ho (by omega)) h
            exact evalT_ok h3 h2 hI hp
          · simp at h
        · simp at h
      · simp at h
    · split at h
      · rename_i i n k xs _ l hx
        split at h
        · rename_i hl
          have hl := Nat.eq_of_beq_eq_true hl
          have ho : (List.range n).map (fun j => V.it (i + j)) = pfF k _ := ho.2
          rw [iesV_ok hI hx] at ho
          obtain ⟨I2, h2, h3⟩ := putZs_ok hI (fun j hj => range_get? ho (by omega)) h
          exact evalT_ok h3 hE h2 hp
        · simp at h
      · simp at h
    · split at h
      · rename_i i op k x y _ _ a b hx hy
        have ho : V.it i = ibinF op k _ _ := ho
        rw [ieV_ok hI hx, ieV_ok hI hy] at ho
        obtain ⟨I2, h2, h3⟩ := putZs_ok hI (fun j hj => by
          have : j = 0 := by simp at hj; omega
          subst this
          simp [ho]) h
        exact evalT_ok h3 hE h2 hp
      · simp at h
    · simp at h
/-! constant calls: leaves out of closed runs -/
def litC (E I : TM) : SC → Option Value
  | .lit v => some v
  | .iv k i => match getZ I i with
    | some z => some (.int k z)
    | none => none
  | .wd e i => match feV E e with
    | some x => some (.int .u64 (.ofNat (wordN (mont x) i)))
    | none => none
  | _ => none
def scEq (E I : TM) : SC → SC → Bool
  | x, .lit v => match litC E I x with
    | some u => vEq u v
    | none => false
  | _, _ => false
def scsEq (E I : TM) : List SC → List SC → Bool
  | [], [] => true
  | x :: l, y :: r => scEq E I x y && scsEq E I l r
  | _, _ => false
def saEq (E I : TM) : SA → SA → Bool
  | .c x, .c y => scEq E I x y
  | .agg l, .agg r => scsEq E I l r
  | _, _ => false
def sasEq (E I : TM) : List SA → List SA → Bool
  | [], [] => true
  | x :: l, y :: r => saEq E I x y && sasEq E I l r
  | _, _ => false
def svEq (E I : TM) : SV → SV → Bool
  | .a x, .a y => saEq E I x y
  | .tup l, .tup r => sasEq E I l r
  | _, _ => false
theorem scEq_is {V : VE FD} {E I : TM} (hE : OkF V E) (hI : OkZ V I) {x y : SC} (h : scEq E I x y = true) {B : Bs} {u : Value} (hu : x.is V B u) (V' : VE FD) (B' : Bs) : y.is V' B' u := by
  unfold scEq at h
  split at h
  · rename_i v
    split at h
    · rename_i u' hl
      have h := vEq_eq h
      subst h
      show u = u'
      unfold litC at hl
      split at hl
      · have hl := Option.some.inj hl
        subst hl
        exact hu
      · split at hl
        · rename_i z hz
          have hl := Option.some.inj hl
          subst hl
          have hu : u = .int _ (V.it _) := hu
          rw [hu, hI _ _ hz]
        · simp at hl
      · split at hl
        · rename_i a ha
          have hl := Option.some.inj hl
          subst hl
          have hu : u = .int .u64 (FD.word _ _) := hu
          rw [hu, feV_ok hE ha]; rfl
        · simp at hl
      · simp at hl
    · simp at h
  · simp at h
theorem scsEq_is {V : VE FD} {E I : TM} (hE : OkF V E) (hI : OkZ V I) : ∀ {l r : List SC}, scsEq E I l r = true → ∀ {B : Bs} {us : List Value}, LIs V B l us → ∀ (V' : VE FD) (B' : Bs), LIs V' B' r us
  | [], [], _, _, [], _, _, _ => trivial
  | x :: l, y :: r, h, B, u :: us, hu, V', B' => by
    simp only [scsEq, Bool.and_eq_true] at h
    exact ⟨scEq_is hE hI h.1 hu.1 V' B', scsEq_is hE hI h.2 hu.2 V' B'⟩
  | [], _ :: _, h, _, _, _, _, _ => by simp [scsEq] at h
  | _ :: _, [], h, _, _, _, _, _ => by simp [scsEq] at h
  | [], [], _, _, _ :: _, hu, _, _ => hu.elim
  | _ :: _, _ :: _, _, _, [], hu, _, _ => hu.elim
theorem saEq_is {V : VE FD} {E I : TM} (hE : OkF V E) (hI : OkZ V I) {x y : SA} (h : saEq E I x y = true) {B : Bs} {u : Value} (hu : x.is V B u) (V' : VE FD) (B' : Bs) : y.is V' B' u := by
  unfold saEq at h
  split at h
  · exact scEq_is hE hI h hu V' B'
  · obtain ⟨vs, h1, h2⟩ := hu
    exact ⟨vs, scsEq_is hE hI h h1 V' B', h2⟩
  · simp at h
theorem sasEq_is {V : VE FD} {E I : TM} (hE : OkF V E) (hI : OkZ V I) : ∀ {l r : List SA}, sasEq E I l r = true → ∀ {B : Bs} {us : List Value}, ALIs V B l us → ∀ (V' : VE FD) (B' : Bs), ALIs V' B' r us
  | [], [], _, _, [], _, _, _ => trivial
  | x :: l, y :: r, h, B, u :: us, hu, V', B' => by
    simp only [sasEq, Bool.and_eq_true] at h
    exact ⟨saEq_is hE hI h.1 hu.1 V' B', sasEq_is hE hI h.2 hu.2 V' B'⟩
  | [], _ :: _, h, _, _, _, _, _ => by simp [sasEq] at h
  | _ :: _, [], h, _, _, _, _, _ => by simp [sasEq] at h
  | [], [], _, _, _ :: _, hu, _, _ => hu.elim
  | _ :: _, _ :: _, _, _, [], hu, _, _ => hu.elim
theorem svEq_is {V : VE FD} {E I : TM} (hE : OkF V E) (hI : OkZ V I) {x y : SV} (h : svEq E I x y = true) {B : Bs} {u : Value} (hu : x.is V B u) (V' : VE FD) (B' : Bs) : y.is V' B' u := by
  unfold svEq at h
  split at h
  · exact saEq_is hE hI h hu V' B'
  · obtain ⟨vs, h1, h2⟩ := hu
    exact ⟨vs, sasEq_is hE hI h h1 V' B', h2⟩
  · simp at h
def closedC : SC → Bool
  | .lit _ => true
  | _ => false
def closedA : SA → Bool
  | .c x => closedC x
  | .agg l => l.all closedC
theorem closedC_is {x : SC} (h : closedC x = true) {V V' : VE FD} {B B' : Bs} {u : Value} (hu : x.is V B u) : x.is V' B' u := by
  unfold closedC at h
  split at h
  · exact hu
  · simp at h
theorem closedL_is : ∀ {l : List SC}, l.all closedC = true → ∀ {V V' : VE FD} {B B' : Bs} {us : List Value}, LIs V B l us → LIs V' B' l us
  | [], _, _, _, _, _, [], _ => trivial
  | x :: l, h, _, _, _, _, u :: us, hu => by
    simp only [List.all_cons, Bool.and_eq_true] at h
    exact ⟨closedC_is h.1 hu.1, closedL_is h.2 hu.2⟩
  | [], _, _, _, _, _, _ :: _, hu => hu.elim
  | _ :: _, _, _, _, _, _, [], hu => hu.elim
theorem closedA_is {x : SA} (h : closedA x = true) {V V' : VE FD} {B B' : Bs} {u : Value} (hu : x.is V B u) : x.is V' B' u := by
  cases x with
  | c x => exact closedC_is h hu
  | agg l => obtain ⟨vs, h1, h2⟩ := hu; exact ⟨vs, closedL_is h h1, h2⟩
/-- what a closed tree comes to -/
def resOk (t : PT) (res : SV) : Bool := match evalT t .e .e with
  | some (_, v, E, I) => svEq E I v res
  | none => false
theorem okF_e (V : VE FD) : OkF V .e := fun i x h => by simp [getF, TM.get] at h
theorem okZ_e (V : VE FD) : OkZ V .e := fun i x h => by simp [getZ, TM.get] at h
/-- names in rows -/
inductive Sg where
  | v (a n : Nat)
  | l (a b c d : Nat)
def vr : Nat → Nat → List FE → List FE
  | _, 0, r => r
  | a, n + 1, r => .var a :: vr (a + 1) n r
def sg : List Sg → List FE
  | [] => []
  | .v a n :: r => vr a n (sg r)
  | .l a b c d :: r => .lit a b c d :: sg r
/-- the tree of a closed run: its rows; of each test the way that is gone -/
def ptL : List TOp → PT → PT
  | [], t => t
  | o :: r, t => match o with
    | .t1 k x true => .test (.t1 k x true) (ptL r t) .stop
    | .t1 k x false => .test (.t1 k x true) .stop (ptL r t)
    | .t2 k x y true => .test (.t2 k x y true) (ptL r t) .stop
    | .t2 k x y false => .test (.t2 k x y true) .stop (ptL r t)
    | .cmp op x y true => .test (.cmp op x y true) (ptL r t) .stop
    | .cmp op x y false => .test (.cmp op x y true) .stop (ptL r t)
    | .tm k xs true => .test (.tm k xs true) (ptL r t) .stop
    | .tm k xs false => .test (.tm k xs true) .stop (ptL r t)
    | o => .row o (ptL r t)
def W4 (a b c d : Nat) : List Value := [.int .u64 (.ofNat a), .int .u64 (.ofNat b), .int .u64 (.ofNat c), .int .u64 (.ofNat d)]
def aggS (vs : List Value) : SA := .agg (vs.map SC.lit)
def litB (b : Bool) : SA := .c (.lit (.bool b))
/-- one constant call -/
def KOK1 (P : Program) (f : Nat) (aas : List KA) (res : SV) : Prop := ∀ (w : World) (us : List Value), KArgs FD w aas us → (kBlk aas us).Pairwise ApP → Calls P f us.toArray w fun e w' => (∃ u, e = .returned u ∧ ∀ (V : VE FD) (B : Bs), res.is V B u) ∧ Keeps (fun _ _ => False) w w'
/-- whatever the capacities are -/
def KOK (P : Program) (f : Nat) (aas : List KA) (res : SV) : Prop := ∀ caps : List Nat, KOK1 P f (capK aas caps) res
theorem kok_plain {P : Program} {f : Nat} {aas : List KA} {res : SV} (h : ∀ caps, capK aas caps = aas) (h1 : KOK1 P f aas res) : KOK P f aas res := fun caps => by rw [h]; exact h1
/-- two slices -/
theorem kok_two {P : Program} {f q g t : Nat} {A B : List Value} {n m ca cb : Nat} {res : SV} (h : ∀ ca cb, KOK1 P f [.g q g t, .s A n ca, .s B m cb] res) : KOK P f [.g q g t, .s A n ca, .s B m cb] res := fun caps => match caps with
  | [] => h ca cb
  | [c] => h c cb
  | c :: d :: _ => h c d
def KAll (P : Program) (f : Nat) : List (List KA × SV) → Prop
  | [] => True
  | c :: r => KOK P f c.1 c.2 ∧ KAll P f r
theorem kc_all {P : Program} {f : Nat} {cs : List (List KA × SV)} (h : KAll P f cs) : PrimOK P FD f (.kc cs) := by
  intro aas res hm
  induction cs with
  | nil => simp at hm
  | cons c r ih =>
    rcases List.mem_cons.1 hm with e | hm
    · have e1 : c.1 = aas := by rw [← e]
      have e2 : c.2 = res := by rw [← e]
      intro caps w us hk ha
      have h1 := h.1
      rw [e1, e2] at h1
      exact h1 caps w us hk ha
    · exact ih h.2 hm
/-- the cells and the values of the arguments -/
def memK : List KA → Mem
  | [] => []
  | .v _ :: r => memK r
  | .s c _ _ :: r => (false, c.map SC.lit) :: memK r
  | .p c :: r => (false, c.map SC.lit) :: memK r
  | .g q g t :: r => (false, []) :: (false, [.gc (q + 1) g t q 0]) :: memK r
def argK : Nat → List KA → List SV
  | _, [] => []
  | k, .v x :: r => .a x :: argK k r
  | k, .s _ len cap :: r => .a (.c (.slc k 0 len cap)) :: argK (k + 1) r
  | k, .p _ :: r => .a (.c (.ptr k 0)) :: argK (k + 1) r
  | k, .g _ _ _ :: r => argK (k + 2) r
/-- the package's variables stand where they are said to -/
def posK : Nat → List KA → Bool
  | _, [] => true
  | k, .v _ :: r => posK k r
  | k, .s _ _ _ :: r => posK (k + 1) r
  | k, .p _ :: r => posK (k + 1) r
  | k, .g q _ _ :: r => Nat.beq q k && posK (k + 2) r
def closedK : KA → Bool
  | .v x => closedA x
  | _ => true
theorem repK {w : World} {V : VE FD} : ∀ {aas : List KA} {us : List Value} {B : Bs} {mem : Mem}, posK mem.length aas = true → aas.all closedK = true → KArgs FD w aas us → (kBlk aas us).Pairwise ApP →
    (∀ (r : Nat) (m : Bool) (cs : List SC) (b o : Nat), mem[r]? = some (m, cs) → B[r]? = some (b, o) → ∀ q ∈ kBlk aas us, ApP (b, o, cs.length) q) →
    Rep (fun _ _ => False) w V B ⟨mem, 0, 0, [], []⟩ w → ∃ B', Rep (fun _ _ => False) w V (B ++ B') ⟨mem ++ memK aas, 0, 0, [], []⟩ w ∧ SVs V (B ++ B') (argK mem.length aas) us
  | [], [], B, mem, _, _, _, _, _, hr => ⟨[], by simpa [memK] using hr, trivial⟩
  | .v x :: aas, u :: us, B, mem, hpos, hc, hk, hp, hd, hr => by
    simp only [List.all_cons, Bool.and_eq_true] at hc
    have hp : (kBlk aas us).Pairwise ApP := hp
    have hd : ∀ (r : Nat) (m : Bool) (cs : List SC) (b' o' : Nat), mem[r]? = some (m, cs) → B[r]? = some (b', o') → ∀ q ∈ kBlk aas us, ApP (b', o', cs.length) q := hd
    obtain ⟨B', h1, h2⟩ := repK (aas := aas) (us := us) hpos hc.2 hk.2 hp hd hr
    obtain ⟨V1, B1, h3⟩ := hk.1
    exact ⟨B', h1, closedA_is hc.1 h3, h2⟩
  | .s c len cap :: aas, u :: us, B, mem, hpos, hc, hk, hp, hd, hr => by
    simp only [List.all_cons, Bool.and_eq_true] at hc
    obtain ⟨⟨b, o, rfl, hcell⟩, hk⟩ := hk
    have hp : ((b, o, c.length) :: kBlk aas us).Pairwise ApP := hp
    have hd : ∀ (r : Nat) (m : Bool) (cs : List SC) (b' o' : Nat), mem[r]? = some (m, cs) → B[r]? = some (b', o') → ∀ q ∈ (b, o, c.length) :: kBlk aas us, ApP (b', o', cs.length) q := hd
    have hlen : B.length = mem.length := hr.len
    have hr2 := hr.more1 (b := b) (o := o) (c := c.map SC.lit) (v := c) (LIs.lits _ _ _) hcell (by
      intro r m cs b' o' h1 h2 i j hi hj
      exact hd r m cs b' o' h1 h2 (b, o, c.length) (by simp) i j hi (by simpa using hj))
    obtain ⟨B', h1, h2⟩ := repK (aas := aas) (us := us) (by rw [List.length_append]; exact hpos) hc.2 hk (List.pairwise_cons.1 hp).2 (by
      intro r m cs b' o' h1 h2 q hq
      rcases Nat.lt_trichotomy r mem.length with hlt | heq | hgt
      · rw [List.getElem?_append_left hlt] at h1
        rw [List.getElem?_append_left (by omega)] at h2
        exact hd r m cs b' o' h1 h2 q (by simp [hq])
      · subst heq
        rw [List.getElem?_append_right (Nat.le_refl _)] at h1
        rw [List.getElem?_append_right (by omega)] at h2
        simp [hlen] at h1 h2
        obtain ⟨_, rfl⟩ := h1
        obtain ⟨rfl, rfl⟩ := h2
        rw [List.length_map]
        exact (List.pairwise_cons.1 hp).1 q hq
      · rw [List.getElem?_eq_none (by simp; omega)] at h1; simp at h1) hr2
    refine ⟨(b, o) :: B', by simpa [memK] using h1, ⟨b, o, ?_, ?_⟩, by simpa [argK] using h2⟩
    · rw [← hlen, List.getElem?_append_right (Nat.le_refl _)]; simp
    · simp
  | .p c :: aas, u :: us, B, mem, hpos, hc, hk, hp, hd, hr => by
    simp only [List.all_cons, Bool.and_eq_true] at hc
    obtain ⟨⟨b, o, rfl, hcell⟩, hk⟩ := hk
    have hp : ((b, o, c.length) :: kBlk aas us).Pairwise ApP := hp
    have hd : ∀ (r : Nat) (m : Bool) (cs : List SC) (b' o' : Nat), mem[r]? = some (m, cs) → B[r]? = some (b', o') → ∀ q ∈ (b, o, c.length) :: kBlk aas us, ApP (b', o', cs.length) q := hd
    have hlen : B.length = mem.length := hr.len
    have hr2 := hr.more1 (b := b) (o := o) (c := c.map SC.lit) (v := c) (LIs.lits _ _ _) hcell (by
      intro r m cs b' o' h1 h2 i j hi hj
      exact hd r m cs b' o' h1 h2 (b, o, c.length) (by simp) i j hi (by simpa using hj))
    obtain ⟨B', h1, h2⟩ := repK (aas := aas) (us := us) (by rw [List.length_append]; exact hpos) hc.2 hk (List.pairwise_cons.1 hp).2 (by
      intro r m cs b' o' h1 h2 q hq
      rcases Nat.lt_trichotomy r mem.length with hlt | heq | hgt
      · rw [List.getElem?_append_left hlt] at h1
        rw [List.getElem?_append_left (by omega)] at h2
        exact hd r m cs b' o' h1 h2 q (by simp [hq])
      · subst heq
        rw [List.getElem?_append_right (Nat.le_refl _)] at h1
        rw [List.getElem?_append_right (by omega)] at h2
        simp [hlen] at h1 h2
        obtain ⟨_, rfl⟩ := h1
        obtain ⟨rfl, rfl⟩ := h2
        rw [List.length_map]
        exact (List.pairwise_cons.1 hp).1 q hq
      · rw [List.getElem?_eq_none (by simp; omega)] at h1; simp at h1) hr2
    refine ⟨(b, o) :: B', by simpa [memK] using h1, ⟨b, o, ?_, ?_⟩, by simpa [argK] using h2⟩
    · rw [← hlen, List.getElem?_append_right (Nat.le_refl _)]; simp
    · show pt b o = pt b (o + 0); rw [Nat.add_zero]
  | .g q g t :: aas, us, B, mem, hpos, hc, hk, hp, hd, hr => by
    simp only [List.all_cons, Bool.and_eq_true] at hc
    have hpos : (Nat.beq q mem.length && posK (mem.length + 2) aas) = true := hpos
    simp only [Bool.and_eq_true] at hpos
    have hq := Nat.eq_of_beq_eq_true hpos.1
    subst hq
    have hk : (∃ b o, HasC w g 0 [.iface t (.pointer (some ⟨b, o, none⟩))]) ∧ KArgs FD w aas us := by unfold KArgs at hk; exact hk
    obtain ⟨⟨b, o, hcell⟩, hk⟩ := hk
    have ekb : kBlk (.g mem.length g t :: aas) us = (g, 0, 1) :: kBlk aas us := rfl
    rw [ekb] at hp hd
    have hlen : B.length = mem.length := hr.len
    have hr2 := hr.more1 (b := b) (o := o) (c := []) (v := []) trivial (fun i v hi => by simp at hi) (by
      intro r m cs b' o' h1 h2 i j hi hj; simp at hj)
    have hr3 := hr2.more1 (b := g) (o := 0) (c := [.gc (mem.length + 1) g t mem.length 0]) (v := [.iface t (.pointer (some ⟨b, o, none⟩))]) (by
      refine ⟨⟨?_, b, o, ?_, rfl⟩, trivial⟩
      · rw [List.append_assoc, List.getElem?_append_right (by omega), hlen]; simp
      · rw [List.append_assoc, List.getElem?_append_right (by omega), hlen]; simp) hcell (by
      intro r m cs b' o' h1 h2 i j hi hj
      rcases Nat.lt_trichotomy r mem.length with hlt | heq | hgt
      · rw [List.getElem?_append_left hlt] at h1
        rw [List.getElem?_append_left (by omega)] at h2
        exact hd r m cs b' o' h1 h2 (g, 0, 1) (by simp) i j hi (by simpa using hj)
      · subst heq
        rw [List.getElem?_append_right (Nat.le_refl _)] at h1
        simp at h1
        rw [h1.2] at hi; simp at hi
      · rw [List.getElem?_eq_none (by simp; omega)] at h1; simp at h1)
    obtain ⟨B', h1, h2⟩ := repK (aas := aas) (us := us) (by simpa using hpos.2) hc.2 hk (List.pairwise_cons.1 hp).2 (by
      intro r m cs b' o' h1 h2 q hq
      rcases Nat.lt_trichotomy r mem.length with hlt | heq | hgt
      · rw [List.append_assoc, List.getElem?_append_left hlt] at h1
        rw [List.append_assoc, List.getElem?_append_left (by omega)] at h2
        exact hd r m cs b' o' h1 h2 q (by simp [hq])
      · subst heq
        rw [List.append_assoc, List.getElem?_append_right (Nat.le_refl _)] at h1
        simp at h1
        intro x y hx; rw [h1.2] at hx; simp at hx
      · rcases Nat.lt_trichotomy r (mem.length + 1) with hlt | heq | hgt
        · omega
        · subst heq
          rw [List.append_assoc, List.getElem?_append_right (by omega)] at h1
          rw [List.append_assoc, List.getElem?_append_right (by omega)] at h2
          simp [hlen] at h1 h2
          obtain ⟨_, rfl⟩ := h1
          obtain ⟨rfl, rfl⟩ := h2
          exact (List.pairwise_cons.1 hp).1 q hq
        · rw [List.getElem?_eq_none (by simp; omega)] at h1; simp at h1) hr3
    refine ⟨(b, o) :: (g, 0) :: B', by simpa [memK] using h1, ?_⟩
    simpa [argK] using h2
  | [], _ :: _, _, _, _, _, hk, _, _, _ => hk.elim
  | .v _ :: _, [], _, _, _, _, hk, _, _, _ => hk.elim
  | .s _ _ _ :: _, [], _, _, _, _, hk, _, _, _ => hk.elim
  | .p _ :: _, [], _, _, _, _, hk, _, _, _ => hk.elim
/-- the memory at the end does not matter -/
def noMem (p : SS × SV) : SS × SV := ({ p.1 with mem := [] }, p.2)
def runK (call : CallF) (f : Nat) (aas : List KA) (ds : List Bool) : Option (SS × SV) := (call f (argK 0 aas) ⟨memK aas, 0, 0, [], ds⟩).map noMem
theorem kc_leaf {P : Program} {call : CallF} (hcall : CallOK P FD call) {f : Nat} (aas : List KA) (res : SV) (t : PT) (hchk : t.chk (runK call f aas) [] []) (hok : t.ok 0 0 [] = true)
    (hin : (memIn 0 0 (memK aas) && ((argK 0 aas).all (svIn 0 0) && (posK 0 aas && aas.all closedK))) = true) (hres : resOk t res = true) : KOK1 P f aas res := by
  simp only [Bool.and_eq_true] at hin
  obtain ⟨hin, hin', hpos, has⟩ := hin
  intro w us hk hp
  have V0 : VE FD := ⟨fun _ => (0 : Fp), fun _ => 0⟩
  obtain ⟨B, hr, hu⟩ := repK (V := V0) (B := []) (mem := []) hpos has hk hp (by intro r m cs b o h; simp at h) (rep0 _ w V0 0 [])
  simp only [List.nil_append] at hr
  have hu : SVs V0 B (argK 0 aas) us := by simpa using hu
  obtain ⟨V', ha, hp⟩ := t.solve hok V0 trivial
  have hp := t.post_chk (K := fun _ v => Calls P f us.toArray w fun e w' => ∃ u X, e = .returned u ∧ Keeps (fun _ _ => False) w w' ∧ v.is V' (B ++ X) u) hchk (by simp) hp (by
    intro ds mem' ne' ni' tr v hrun hh
    unfold runK at hrun
    obtain ⟨⟨st, v'⟩, h1, h2⟩ := Option.map_eq_some_iff.1 hrun
    simp only [noMem, Prod.mk.injEq, SS.mk.injEq] at h2
    obtain ⟨⟨_, _, _, htr, _⟩, rfl⟩ := h2
    refine (hcall.sound f _ _ _ v' h1 (fun _ _ => False) w V' B w us ((hr.agree ha hin).other rfl) (SVs_in ha hin' hu) (by rw [htr]; exact hh)).mono ?_
    rintro e w' ⟨u, X, h1, h2, h3⟩
    exact ⟨u, X, h1, h2.keeps, h3⟩)
  unfold resOk at hres
  split at hres
  · rename_i m v E I he
    obtain ⟨h1, h2, h3⟩ := evalT_ok he (okF_e V') (okZ_e V') hp
    refine h1.mono ?_
    rintro e w' ⟨u, X, h4, h5, h6⟩
    exact ⟨⟨u, h4, fun V B => svEq_is h2 h3 hres h6 V B⟩, h5⟩
  · simp at hres
/-! the context of the statement's own functions -/
noncomputable def cTy4 : List (Nat × TyI) := [(22, ⟨1, false, [.int .u64 0], [], none, some .u64, 2, none, none, true, []⟩),
 (96, ⟨1, false, [.pointer none], [], none, none, 4, none, some 8, true, [("Add", 67), ("Conjugate", 37), ("Double", 66), ("Equal", 100), ("Halve", 64), ("Inverse", 125), ("IsZero", 60), ("Mul", 63), ("MulByElement", 29), ("MulByNonResidue", 72), ("MulByNonResidue1Power1", 92), ("MulByNonResidue1Power2", 38), ("MulByNonResidue1Power3", 39), ("MulByNonResidue1Power4", 91), ("MulByNonResidue1Power5", 93), ("MulByNonResidue2Power1", 88), ("MulByNonResidue2Power2", 40), ("MulByNonResidue2Power3", 41), ("MulByNonResidue2Power4", 87), ("MulByNonResidue2Power5", 89), ("MulByNonResidue3Power1", 96), ("MulByNonResidue3Power2", 94), ("MulByNonResidue3Power3", 97), ("MulByNonResidue3Power4", 95), ("MulByNonResidue3Power5", 98), ("MulByNonResidueInv", 116), ("MulBybTwistCurveCoeff", 68), ("Neg", 42), ("Set", 30), ("SetOne", 62), ("SetZero", 61), ("Square", 65), ("Sub", 69)]⟩),
 (119, ⟨1, false, [.slice none 0 0], [], none, none, 5, some (1, 8, [.int .u64 0]), none, false, []⟩),
 (50, ⟨8, true, [.int .u64 0, .int .u64 0, .int .u64 0, .int .u64 0, .int .u64 0, .int .u64 0, .int .u64 0, .int .u64 0], [some (0, 4), some (4, 4)], none, none, 7, none, none, true, []⟩),
 (48, ⟨4, true, [.int .u64 0, .int .u64 0, .int .u64 0, .int .u64 0], [], some (4, 1), none, 8, none, none, true, []⟩),
 (3, ⟨1, false, [.int .i64 0], [], none, some .i64, 2, none, none, true, []⟩),
 (52, ⟨24, true, [.int .u64 0, .int .u64 0, .int .u64 0, .int .u64 0, .int .u64 0, .int .u64 0, .int .u64 0, .int .u64 0, .int .u64 0, .int .u64 0, .int .u64 0, .int .u64 0, .int .u64 0, .int .u64 0, .int .u64 0, .int .u64 0, .int .u64 0, .int .u64 0, .int .u64 0, .int .u64 0, .int .u64 0, .int .u64 0, .int .u64 0, .int .u64 0], [some (0, 8), some (8, 8), some (16, 8)], none, none, 7, none, none, true, []⟩),
 (54, ⟨48, true, [.int .u64 0, .int .u64 0, .int .u64 0, .int .u64 0, .int .u64 0, .int .u64 0, .int .u64 0, .int .u64 0, .int .u64 0, .int .u64 0, .int .u64 0, .int .u64 0, .int .u64 0, .int .u64 0, .int .u64 0, .int .u64 0, .int .u64 0, .int .u64 0, .int .u64 0, .int .u64 0, .int .u64 0, .int .u64 0, .int .u64 0, .int .u64 0, .int .u64 0, .int .u64 0, .int .u64 0, .int .u64 0, .int .u64 0, .int .u64 0, .int .u64 0, .int .u64 0, .int .u64 0, .int .u64 0, .int .u64 0, .int .u64 0, .int .u64 0, .int .u64 0, .int .u64 0, .int .u64 0, .int .u64 0, .int .u64 0, .int .u64 0, .int .u64 0, .int .u64 0, .int .u64 0, .int .u64 0, .int .u64 0], [some (0, 24), some (24, 24)], none, none, 7, none, none, true, []⟩),
 (186, ⟨1, false, [.int .u64 0], [], none, some .u64, 2, none, none, true, []⟩),
 (118, ⟨1, false, [.slice none 0 0], [], none, none, 5, some (1, 8, [.int .u64 0]), none, false, []⟩),
 (71, ⟨1, false, [.pointer none], [], none, none, 4, none, some 48, true, [("Conjugate", 45), ("CyclotomicSquare", 49), ("Equal", 19), ("Expt", 48), ("Frobenius", 50), ("FrobeniusCube", 51), ("FrobeniusSquare", 47), ("Inverse", 46), ("IsInSubGroup", 205), ("Mul", 44), ("MulBy01234", 36), ("MulBy034", 32), ("Set", 43), ("SetOne", 18), ("Square", 33), ("loop.example/pub-g03346/pub/gnarkcrypto/ecc/bn254/inner/fptower.nSquare", 90)]⟩),
 (121, ⟨2, true, [.bool false, .slice none 0 0], [some (0, 1), some (1, 1)], none, none, 7, none, none, false, []⟩),
 (92, ⟨24, true, [.int .u64 0, .int .u64 0, .int .u64 0, .int .u64 0, .int .u64 0, .int .u64 0, .int .u64 0, .int .u64 0, .int .u64 0, .int .u64 0, .int .u64 0, .int .u64 0, .int .u64 0, .int .u64 0, .int .u64 0, .int .u64 0, .int .u64 0, .int .u64 0, .int .u64 0, .int .u64 0, .int .u64 0, .int .u64 0, .int .u64 0, .int .u64 0], [some (0, 8), some (8, 8), some (16, 8)], none, none, 7, none, none, true, []⟩),
 (108, ⟨240, true, [.int .u64 0, .int .u64 0, .int .u64 0, .int .u64 0, .int .u64 0, .int .u64 0, .int .u64 0, .int .u64 0, .int .u64 0, .int .u64 0, .int .u64 0, .int .u64 0, .int .u64 0, .int .u64 0, .int .u64 0, .int .u64 0, .int .u64 0, .int .u64 0, .int .u64 0, .int .u64 0, .int .u64 0, .int .u64 0, .int .u64 0, .int .u64 0, .int .u64 0, .int .u64 0, .int .u64 0, .int .u64 0, .int .u64 0, .int .u64 0, .int .u64 0, .int .u64 0, .int .u64 0, .int .u64 0, .int .u64 0, .int .u64 0, .int .u64 0, .int .u64 0, .int .u64 0, .int .u64 0, .int .u64 0, .int .u64 0, .int .u64 0, .int .u64 0, .int .u64 0, .int .u64 0, .int .u64 0, .int .u64 0, .int .u64 0, .int .u64 0, .int .u64 0, .int .u64 0, .int .u64 0, .int .u64 0, .int .u64 0, .int .u64 0, .int .u64 0, .int .u64 0, .int .u64 0, .int .u64 0, .int .u64 0, .int .u64 0, .int .u64 0, .int .u64 0, .int .u64 0, .int .u64 0, .int .u64 0, .int .u64 0, .int .u64 0, .int .u64 0, .int .u64 0, .int .u64 0, .int .u64 0, .int .u64 0, .int .u64 0, .int .u64 0, .int .u64 0, .int .u64 0, .int .u64 0, .int .u64 0, .int .u64 0, .int .u64 0, .int .u64 0, .int .u64 0, .int .u64 0, .int .u64 0, .int .u64 0, .int .u64 0, .int .u64 0, .int .u64 0, .int .u64 0, .int .u64 0, .int .u64 0, .int .u64 0, .int .u64 0, .int .u64 0, .int .u64 0, .int .u64 0, .int .u64 0, .int .u64 0, .int .u64 0, .int .u64 0, .int .u64 0, .int .u64 0, .int .u64 0, .int .u64 0, .int .u64 0, .int .u64 0, .int .u64 0, .int .u64 0, .int .u64 0, .int .u64 0, .int .u64 0, .int .u64 0, .int .u64 0, .int .u64 0, .int .u64 0, .int .u64 0, .int .u64 0, .int .u64 0, .int .u64 0, .int .u64 0, .int .u64 0, .int .u64 0, .int .u64 0, .int .u64 0, .int .u64 0, .int .u64 0, .int .u64 0, .int .u64 0, .int .u64 0, .int .u64 0, .int .u64 0, .int .u64 0, .int .u64 0, .int .u64 0, .int .u64 0, .int .u64 0, .int .u64 0, .int .u64 0, .int .u64 0, .int .u64 0, .int .u64 0, .int .u64 0, .int .u64 0, .int .u64 0, .int .u64 0, .int .u64 0, .int .u64 0, .int .u64 0, .int .u64 0, .int .u64 0, .int .u64 0, .int .u64 0, .int .u64 0, .int .u64 0, .int .u64 0, .int .u64 0, .int .u64 0, .int .u64 0, .int .u64 0, .int .u64 0, .int .u64 0, .int .u64 0, .int .u64 0, .int .u64 0, .int .u64 0, .int .u64 0, .int .u64 0, .int .u64 0, .int .u64 0, .int .u64 0, .int .u64 0, .int .u64 0, .int .u64 0, .int .u64 0, .int .u64 0, .int .u64 0, .int .u64 0, .int .u64 0, .int .u64 0, .int .u64 0, .int .u64 0, .int .u64 0, .int .u64 0, .int .u64 0, .int .u64 0, .int .u64 0, .int .u64 0, .int .u64 0, .int .u64 0, .int .u64 0, .int .u64 0, .int .u64 0, .int .u64 0, .int .u64 0, .int .u64 0, .int .u64 0, .int .u64 0, .int .u64 0, .int .u64 0, .int .u64 0, .int .u64 0, .int .u64 0, .int .u64 0, .int .u64 0, .int .u64 0, .int .u64 0, .int .u64 0, .int .u64 0, .int .u64 0, .int .u64 0, .int .u64 0, .int .u64 0, .int .u64 0, .int .u64 0, .int .u64 0, .int .u64 0, .int .u64 0, .int .u64 0, .int .u64 0, .int .u64 0, .int .u64 0, .int .u64 0, .int .u64 0, .int .u64 0, .int .u64 0, .int .u64 0, .int .u64 0, .int .u64 0, .int .u64 0, .int .u64 0, .int .u64 0, .int .u64 0, .int .u64 0, .int .u64 0, .int .u64 0, .int .u64 0, .int .u64 0, .int .u64 0], [], some (5, 48), none, 8, none, none, true, []⟩),
 (157, ⟨1, false, [.int .u64 0], [], none, some .u64, 2, none, none, true, []⟩),
 (5, ⟨1, false, [.int .u8 0], [], none, some .u8, 2, none, none, true, []⟩),
 (98, ⟨1, false, [.pointer none], [], none, none, 4, none, some 4, true, [("Add", 123), ("BitLen", 160), ("Bits", 99), ("Double", 122), ("Equal", 128), ("Halve", 112), ("Inverse", 144), ("IsOne", 166), ("IsZero", 59), ("Mul", 71), ("Neg", 82), ("NotEqual", 146), ("Set", 70), ("SetBytesCanonical", 55), ("SetOne", 53), ("SetZero", 110), ("Square", 143), ("Sub", 124), ("loop.example/pub-g03346/pub/gnarkcrypto/ecc/bn254/fp.inverseExp", 167), ("loop.example/pub-g03346/pub/gnarkcrypto/ecc/bn254/fp.linearComb", 165), ("loop.example/pub-g03346/pub/gnarkcrypto/ecc/bn254/fp.linearCombNonModular", 163), ("loop.example/pub-g03346/pub/gnarkcrypto/ecc/bn254/fp.montReduceSigned", 181), ("loop.example/pub-g03346/pub/gnarkcrypto/ecc/bn254/fp.mulWNonModular", 180), ("loop.example/pub-g03346/pub/gnarkcrypto/ecc/bn254/fp.smallerThanModulus", 120), ("loop.example/pub-g03346/pub/gnarkcrypto/ecc/bn254/fp.toMont", 130)]⟩),
 (216, ⟨1, false, [.int .u32 0], [], none, some .u32, 2, none, none, true, []⟩),
 (44, ⟨1, false, [.slice none 0 0], [], none, none, 5, some (8, 64, [.int .u64 0, .int .u64 0, .int .u64 0, .int .u64 0, .int .u64 0, .int .u64 0, .int .u64 0, .int .u64 0]), none, false, []⟩),
 (67, ⟨16, true, [.int .u64 0, .int .u64 0, .int .u64 0, .int .u64 0, .int .u64 0, .int .u64 0, .int .u64 0, .int .u64 0, .int .u64 0, .int .u64 0, .int .u64 0, .int .u64 0, .int .u64 0, .int .u64 0, .int .u64 0, .int .u64 0], [some (0, 8), some (8, 8)], none, none, 7, none, none, true, []⟩),
 (63, ⟨8, true, [.int .u64 0, .int .u64 0, .int .u64 0, .int .u64 0, .int .u64 0, .int .u64 0, .int .u64 0, .int .u64 0], [some (0, 4), some (4, 4)], none, none, 7, none, none, true, []⟩),
 (219, ⟨7, true, [.int .u64 0, .int .u64 0, .int .u64 0, .int .u64 0, .int .u64 0, .int .u64 0, .int .u64 0], [], some (7, 1), none, 8, none, none, true, []⟩),
 (45, ⟨1, false, [.slice none 0 0], [], none, none, 5, some (16, 128, [.int .u64 0, .int .u64 0, .int .u64 0, .int .u64 0, .int .u64 0, .int .u64 0, .int .u64 0, .int .u64 0, .int .u64 0, .int .u64 0, .int .u64 0, .int .u64 0, .int .u64 0, .int .u64 0, .int .u64 0, .int .u64 0]), none, false, []⟩),
 (4, ⟨1, false, [.bool false], [], none, none, 1, none, none, true, []⟩),
 (56, ⟨1, false, [.nilIface], [], none, none, 6, none, none, true, []⟩),
 (23, ⟨4, true, [.int .u64 0, .int .u64 0, .int .u64 0, .int .u64 0], [], some (4, 1), none, 8, none, none, true, []⟩),
 (2, ⟨1, false, [.int .i64 0], [], none, some .i64, 2, none, none, true, []⟩),
 (9, ⟨1, false, [.string ⟨#[]⟩], [], none, none, 3, none, none, true, []⟩),
 (116, ⟨1, false, [.pointer none], [], none, none, 4, none, some 2, true, [("Add", 108), ("And", 107), ("BitLen", 208), ("Cmp", 106), ("Rsh", 109), ("Set", 105), ("SetString", 57), ("SetUint64", 104), ("String", 209), ("loop.example/pub-g03346/pub/bigall.scan", 131), ("loop.example/pub-g03346/pub/bigall.setFromScanner", 102)]⟩),
 (114, ⟨1, false, [.slice none 0 0], [], none, none, 5, some (1, 1, [.int .u8 0]), none, false, []⟩),
 (87, ⟨24, true, [.int .u64 0, .int .u64 0, .int .u64 0, .int .u64 0, .int .u64 0, .int .u64 0, .int .u64 0, .int .u64 0, .int .u64 0, .int .u64 0, .int .u64 0, .int .u64 0, .int .u64 0, .int .u64 0, .int .u64 0, .int .u64 0, .int .u64 0, .int .u64 0, .int .u64 0, .int .u64 0, .int .u64 0, .int .u64 0, .int .u64 0, .int .u64 0], [some (0, 8), some (8, 8), some (16, 8)], none, none, 7, none, none, true, []⟩),
 (37, ⟨48, true, [.int .u64 0, .int .u64 0, .int .u64 0, .int .u64 0, .int .u64 0, .int .u64 0, .int .u64 0, .int .u64 0, .int .u64 0, .int .u64 0, .int .u64 0, .int .u64 0, .int .u64 0, .int .u64 0, .int .u64 0, .int .u64 0, .int .u64 0, .int .u64 0, .int .u64 0, .int .u64 0, .int .u64 0, .int .u64 0, .int .u64 0, .int .u64 0, .int .u64 0, .int .u64 0, .int .u64 0, .int .u64 0, .int .u64 0, .int .u64 0, .int .u64 0, .int .u64 0, .int .u64 0, .int .u64 0, .int .u64 0, .int .u64 0, .int .u64 0, .int .u64 0, .int .u64 0, .int .u64 0, .int .u64 0, .int .u64 0, .int .u64 0, .int .u64 0, .int .u64 0, .int .u64 0, .int .u64 0, .int .u64 0], [some (0, 24), some (24, 24)], none, none, 7, none, none, true, []⟩),
 (173, ⟨3, true, [.string ⟨#[]⟩, .int .i64 0, .int .i64 0], [some (0, 1), some (1, 1), some (2, 1)], none, none, 7, none, none, true, []⟩),
 (29, ⟨8, true, [.int .u64 0, .int .u64 0, .int .u64 0, .int .u64 0, .int .u64 0, .int .u64 0, .int .u64 0, .int .u64 0], [some (0, 4), some (4, 4)], none, none, 7, none, none, true, []⟩),
 (84, ⟨1, false, [.slice none 0 0], [], none, none, 5, some (24, 192, [.int .u64 0, .int .u64 0, .int .u64 0, .int .u64 0, .int .u64 0, .int .u64 0, .int .u64 0, .int .u64 0, .int .u64 0, .int .u64 0, .int .u64 0, .int .u64 0, .int .u64 0, .int .u64 0, .int .u64 0, .int .u64 0, .int .u64 0, .int .u64 0, .int .u64 0, .int .u64 0, .int .u64 0, .int .u64 0, .int .u64 0, .int .u64 0]), none, false, []⟩),
 (31, ⟨16, true, [.int .u64 0, .int .u64 0, .int .u64 0, .int .u64 0, .int .u64 0, .int .u64 0, .int .u64 0, .int .u64 0, .int .u64 0, .int .u64 0, .int .u64 0, .int .u64 0, .int .u64 0, .int .u64 0, .int .u64 0, .int .u64 0], [some (0, 8), some (8, 8)], none, none, 7, none, none, true, []⟩),
 (25, ⟨8, true, [.int .u64 0, .int .u64 0, .int .u64 0, .int .u64 0, .int .u64 0, .int .u64 0, .int .u64 0, .int .u64 0], [some (0, 4), some (4, 4)], none, none, 7, none, none, true, []⟩),
 (93, ⟨40, true, [.int .u64 0, .int .u64 0, .int .u64 0, .int .u64 0, .int .u64 0, .int .u64 0, .int .u64 0, .int .u64 0, .int .u64 0, .int .u64 0, .int .u64 0, .int .u64 0, .int .u64 0, .int .u64 0, .int .u64 0, .int .u64 0, .int .u64 0, .int .u64 0, .int .u64 0, .int .u64 0, .int .u64 0, .int .u64 0, .int .u64 0, .int .u64 0, .int .u64 0, .int .u64 0, .int .u64 0, .int .u64 0, .int .u64 0, .int .u64 0, .int .u64 0, .int .u64 0, .int .u64 0, .int .u64 0, .int .u64 0, .int .u64 0, .int .u64 0, .int .u64 0, .int .u64 0, .int .u64 0], [], some (5, 8), none, 8, none, none, true, []⟩),
 (33, ⟨1, false, [.slice none 0 0], [], none, none, 5, some (16, 128, [.int .u64 0, .int .u64 0, .int .u64 0, .int .u64 0, .int .u64 0, .int .u64 0, .int .u64 0, .int .u64 0, .int .u64 0, .int .u64 0, .int .u64 0, .int .u64 0, .int .u64 0, .int .u64 0, .int .u64 0, .int .u64 0]), none, false, []⟩),
 (27, ⟨1, false, [.slice none 0 0], [], none, none, 5, some (8, 64, [.int .u64 0, .int .u64 0, .int .u64 0, .int .u64 0, .int .u64 0, .int .u64 0, .int .u64 0, .int .u64 0]), none, false, []⟩),
 (95, ⟨1, false, [.pointer none], [], none, none, 4, none, some 24, true, []⟩),
 (80, ⟨66, true, [.int .i8 0, .int .i8 0, .int .i8 0, .int .i8 0, .int .i8 0, .int .i8 0, .int .i8 0, .int .i8 0, .int .i8 0, .int .i8 0, .int .i8 0, .int .i8 0, .int .i8 0, .int .i8 0, .int .i8 0, .int .i8 0, .int .i8 0, .int .i8 0, .int .i8 0, .int .i8 0, .int .i8 0, .int .i8 0, .int .i8 0, .int .i8 0, .int .i8 0, .int .i8 0, .int .i8 0, .int .i8 0, .int .i8 0, .int .i8 0, .int .i8 0, .int .i8 0, .int .i8 0, .int .i8 0, .int .i8 0, .int .i8 0, .int .i8 0, .int .i8 0, .int .i8 0, .int .i8 0, .int .i8 0, .int .i8 0, .int .i8 0, .int .i8 0, .int .i8 0, .int .i8 0, .int .i8 0, .int .i8 0, .int .i8 0, .int .i8 0, .int .i8 0, .int .i8 0, .int .i8 0, .int .i8 0, .int .i8 0, .int .i8 0, .int .i8 0, .int .i8 0, .int .i8 0, .int .i8 0, .int .i8 0, .int .i8 0, .int .i8 0, .int .i8 0, .int .i8 0, .int .i8 0], [], some (66, 1), none, 8, none, none, true, []⟩),
 (89, ⟨1, false, [.pointer none], [], none, none, 4, none, some 16, true, [("IsInSubGroup", 206), ("IsInfinity", 25), ("Neg", 27)]⟩),
 (211, ⟨1, false, [.pointer none], [], none, none, 4, none, some 1, true, []⟩),
 (79, ⟨1, false, [.int .i8 0], [], none, some .i8, 2, none, none, true, []⟩),
 (165, ⟨32, true, [.int .u8 0, .int .u8 0, .int .u8 0, .int .u8 0, .int .u8 0, .int .u8 0, .int .u8 0, .int .u8 0, .int .u8 0, .int .u8 0, .int .u8 0, .int .u8 0, .int .u8 0, .int .u8 0, .int .u8 0, .int .u8 0, .int .u8 0, .int .u8 0, .int .u8 0, .int .u8 0, .int .u8 0, .int .u8 0, .int .u8 0, .int .u8 0, .int .u8 0, .int .u8 0, .int .u8 0, .int .u8 0, .int .u8 0, .int .u8 0, .int .u8 0, .int .u8 0], [], some (32, 1), none, 8, none, none, true, []⟩),
 (167, ⟨1, false, [.nilIface], [], none, none, 6, none, none, true, []⟩),
 (124, ⟨1, false, [.slice none 0 0], [], none, none, 5, some (1, 1, [.int .i8 0]), none, false, []⟩),
 (105, ⟨1, false, [.pointer none], [], none, none, 4, none, some 40, true, []⟩),
 (35, ⟨24, true, [.int .u64 0, .int .u64 0, .int .u64 0, .int .u64 0, .int .u64 0, .int .u64 0, .int .u64 0, .int .u64 0, .int .u64 0, .int .u64 0, .int .u64 0, .int .u64 0, .int .u64 0, .int .u64 0, .int .u64 0, .int .u64 0, .int .u64 0, .int .u64 0, .int .u64 0, .int .u64 0, .int .u64 0, .int .u64 0, .int .u64 0, .int .u64 0], [some (0, 8), some (8, 8), some (16, 8)], none, none, 7, none, none, true, []⟩),
 (146, ⟨0, true, [], [], none, none, 7, none, none, true, []⟩),
 (106, ⟨1, false, [.slice none 0 0], [], none, none, 5, some (1, 8, [.pointer none]), none, false, []⟩),
 (21, ⟨1, false, [.int .i32 0], [], none, some .i32, 2, none, none, true, []⟩),
 (127, ⟨1, true, [.string ⟨#[]⟩], [some (0, 1)], none, none, 7, none, none, true, []⟩),
 (112, ⟨1, false, [.pointer none], [], none, none, 4, none, some 24, true, [("Add", 76), ("Double", 81), ("Equal", 54), ("Inverse", 86), ("IsZero", 207), ("Mul", 80), ("MulBy01", 75), ("MulByE2", 73), ("MulByNonResidue", 78), ("Neg", 77), ("Set", 74), ("Square", 85), ("Sub", 79)]⟩),
 (150, ⟨1, false, [.pointer none], [], none, none, 4, none, some 3, true, [("Len", 214), ("ReadByte", 215), ("UnreadByte", 216)]⟩),
 (148, ⟨1, false, [.pointer none], [], none, none, 4, none, some 32, true, []⟩),
 (125, ⟨1, false, [.pointer none], [], none, none, 4, none, some 1, true, [("Error", 211)]⟩)]
noncomputable def cFn4 : List (Nat × Func) := [(3, Tryz.f3), (4, Tryz.f4), (5, Tryz.f5), (8, Tryz.f8), (6, Tryz.f6), (9, Tryz.f9), (13, Tryz.f13), (20, Tryz.f20), (56, Tryz.f56), (55, Tryz.f55), (23, Tryz.f23), (101, Tryz.f101), (129, Tryz.f129), (130, Tryz.f130), (147, Tryz.f147), (14, Tryz.f14), (21, Tryz.f21), (10, Tryz.f10), (15, Tryz.f15), (22, Tryz.f22), (57, Tryz.f57), (103, Tryz.f103), (102, Tryz.f102), (131, Tryz.f131), (148, Tryz.f148), (149, Tryz.f149), (170, Tryz.f170), (171, Tryz.f171), (150, Tryz.f150), (151, Tryz.f151), (182, Tryz.f182), (186, Tryz.f186), (187, Tryz.f187), (188, Tryz.f188), (189, Tryz.f189), (118, Tryz.f118), (177, Tryz.f177), (184, Tryz.f184), (154, Tryz.f154), (172, Tryz.f172), (173, Tryz.f173), (141, Tryz.f141), (157, Tryz.f157), (158, Tryz.f158), (133, Tryz.f133), (159, Tryz.f159), (178, Tryz.f178), (58, Tryz.f58), (104, Tryz.f104), (132, Tryz.f132), (105, Tryz.f105), (106, Tryz.f106), (134, Tryz.f134), (107, Tryz.f107), (136, Tryz.f136), (135, Tryz.f135), (152, Tryz.f152), (174, Tryz.f174), (175, Tryz.f175), (183, Tryz.f183), (153, Tryz.f153), (138, Tryz.f138), (137, Tryz.f137), (155, Tryz.f155), (176, Tryz.f176), (156, Tryz.f156), (139, Tryz.f139), (140, Tryz.f140), (108, Tryz.f108), (109, Tryz.f109), (24, Tryz.f24), (25, Tryz.f25), (60, Tryz.f60), (26, Tryz.f26), (61, Tryz.f61), (110, Tryz.f110), (62, Tryz.f62), (53, Tryz.f53), (30, Tryz.f30), (27, Tryz.f27), (18, Tryz.f18), (16, Tryz.f16), (43, Tryz.f43), (19, Tryz.f19), (54, Tryz.f54), (100, Tryz.f100), (48, Tryz.f48), (90, Tryz.f90), (11, Tryz.f11), (17, Tryz.f17), (52, Tryz.f52), (99, Tryz.f99), (127, Tryz.f127), (145, Tryz.f145), (168, Tryz.f168), (169, Tryz.f169), (7, Tryz.f7), (12, Tryz.f12), (116, Tryz.f116), (142, Tryz.f142), (160, Tryz.f160), (179, Tryz.f179), (166, Tryz.f166), (146, Tryz.f146), (70, Tryz.f70), (167, Tryz.f167), (165, Tryz.f165), (163, Tryz.f163), (180, Tryz.f180), (185, Tryz.f185), (164, Tryz.f164), (181, Tryz.f181), (76, Tryz.f76), (81, Tryz.f81), (86, Tryz.f86), (80, Tryz.f80), (75, Tryz.f75), (73, Tryz.f73), (78, Tryz.f78), (77, Tryz.f77), (74, Tryz.f74), (85, Tryz.f85), (79, Tryz.f79), (215, Tryz.f215), (216, Tryz.f216)]
noncomputable def C4 : Ctx := ⟨cTy4, cFn4, cEx, [(1, 1)], foldF⟩
theorem C4_ok : CtxOk Tryz.prog FD C4 :=
  ctx_more (C := C4) C0_ok rfl rfl (by kernel_rfl) (by kernel_rfl) (by kernel_rfl) (by kernel_rfl) (by kernel_rfl)
def nLoopCounter : Nat := 22
def nPoint1 : Nat := 13
def nPoint2 : Nat := 14
def nTold2 : Nat := 52
def nTold6 : Nat := 17
def nTold12 : Nat := 11
def nMiller : Nat := 15
def nFinal : Nat := 16
def nBnPair : Nat := 10
def pr5 : List (Nat × PrimS) := (nsmallerThanModulus, .tm 0 4) :: pr4
theorem pr5_ok : PrimsOK Tryz.prog pr5 := ⟨smaller_ok, pr4_ok⟩
noncomputable def callK : CallF := callS C4 lo0 pr5 200 20
theorem callK_ok : CallOK Tryz.prog FD callK := callS_ok C4_ok mixed lo0_ok (prims_ok (l := pr5) pr5_ok (by kernel_rfl)) 200 20
def gK : KA := .g 0 1 125
end Go.Proofs.YtnmkmbjbaagojaaGreatDoor
