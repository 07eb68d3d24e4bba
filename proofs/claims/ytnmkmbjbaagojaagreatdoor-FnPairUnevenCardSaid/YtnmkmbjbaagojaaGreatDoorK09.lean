/- A part of the proof of laws.FnPairUneven. -/
import Derived.Test.YtnmkmbjbaagojaaGreatDoorK07
import Derived.Test.YtnmkmbjbaagojaaGreatDoorK08
namespace Go.Proofs.YtnmkmbjbaagojaaGreatDoor
open Go
set_option maxRecDepth 100000
set_option linter.unusedVariables false
set_option linter.unusedSimpArgs false
/-! the paths of a run, as a tree; each is met by some meaning of the names -/
inductive PT where
  | done (mem : List (Bool × List SC)) (ne ni : Nat) (v : SV)
  | row (o : TOp) (r : PT)
  | test (o : TOp) (y n : PT)
  | stop
def flipT (d : Bool) : TOp → TOp
  | .t1 k x _ => .t1 k x d
  | .t2 k x y _ => .t2 k x y d
  | .cmp op x y _ => .cmp op x y d
  | .tm k xs _ => .tm k xs d
  | o => o
/-- the runs are as the tree says -/
def PT.chk (run : List Bool → Option (SS × SV)) : PT → List Bool → List TOp → Prop
  | .done mem ne ni v, ds, tr => run ds = some (⟨mem, ne, ni, tr, []⟩, v)
  | .row o r, ds, tr => r.chk run ds (o :: tr)
  | .test o y n, ds, tr => y.chk run (ds ++ [true]) (flipT true o :: tr) ∧ n.chk run (ds ++ [false]) (flipT false o :: tr)
  | .stop, _, _ => True
/-- the runs' ends, in a list -/
def PT.ends : PT → List Bool → List TOp → List (List Bool × SS × SV)
  | .done mem ne ni v, ds, tr => [(ds, ⟨mem, ne, ni, tr, []⟩, v)]
  | .row o r, ds, tr => r.ends ds (o :: tr)
  | .test o y n, ds, tr => y.ends (ds ++ [true]) (flipT true o :: tr) ++ n.ends (ds ++ [false]) (flipT false o :: tr)
  | .stop, _, _ => []
theorem PT.chk_of {run : List Bool → Option (SS × SV)} : ∀ {t : PT} {ds : List Bool} {tr : List TOp}, (t.ends ds tr).map (fun p => run p.1) = (t.ends ds tr).map (fun p => some p.2) → t.chk run ds tr
  | .done mem ne ni v, ds, tr, h => (List.cons.inj h).1
  | .row o r, ds, tr, h => PT.chk_of (t := r) (ds := ds) (tr := o :: tr) h
  | .test o y n, ds, tr, h => by
    simp only [PT.ends, List.map_append] at h
    have h := List.append_inj h (by simp)
    exact ⟨PT.chk_of (t := y) h.1, PT.chk_of (t := n) h.2⟩
  | .stop, _, _, _ => trivial
def PT.post {D : Dom} (V : VE D) (K : List (Bool × List SC) → SV → Prop) : PT → Prop
  | .done mem _ _ v => K mem v
  | .row o r => o.holds V ∧ r.post V K
  | .test o y n => ((flipT true o).holds V ∧ y.post V K) ∨ ((flipT false o).holds V ∧ n.post V K)
  | .stop => True
theorem PT.post_mono {D : Dom} {V : VE D} {K K' : List (Bool × List SC) → SV → Prop} (h : ∀ m v, K m v → K' m v) : ∀ {t : PT}, t.post V K → t.post V K'
  | .done _ _ _ _, hp => h _ _ hp
  | .row _ _, hp => ⟨hp.1, PT.post_mono h hp.2⟩
  | .test _ _ _, .inl hp => .inl ⟨hp.1, PT.post_mono h hp.2⟩
  | .test _ _ _, .inr hp => .inr ⟨hp.1, PT.post_mono h hp.2⟩
  | .stop, _ => trivial
/-! what is known of numbers: 0 nothing, 1 a word, 2 up to 256, 3 zero or one, 4 a number with a sign; newest first -/
def kOK : Nat → Int → Prop
  | 0, _ => True
  | 1, x => isW x
  | 2, x => 0 ≤ x ∧ x ≤ 256
  | 3, x => 0 ≤ x ∧ x ≤ 1
  | _, x => isI x
def wK (k : Nat) : Bool := Nat.ble 1 k && Nat.ble k 3
def sK (k : Nat) : Bool := Nat.ble 2 k && Nat.ble k 3
def bK (k : Nat) : Bool := Nat.beq k 3
def iK (k : Nat) : Bool := Nat.ble 2 k
theorem kOK_word {k : Nat} {x : Int} (h : kOK k x) (hk : wK k = true) : isW x := by
  match k, h with
  | 0, _ => simp [wK] at hk
  | 1, h => exact h
  | 2, h => have h : 0 ≤ x ∧ x ≤ 256 := h; exact ⟨h.1, by omega⟩
  | 3, h => have h : 0 ≤ x ∧ x ≤ 1 := h; exact ⟨h.1, by omega⟩
  | k + 4, h => simp [wK] at hk
theorem kOK_small {k : Nat} {x : Int} (h : kOK k x) (hk : sK k = true) : 0 ≤ x ∧ x ≤ 256 := by
  match k, h with
  | 0, _ => simp [sK] at hk
  | 1, _ => simp [sK] at hk
  | 2, h => exact h
  | 3, h => have h : 0 ≤ x ∧ x ≤ 1 := h; exact ⟨h.1, by omega⟩
  | k + 4, h => simp [sK] at hk
theorem kOK_bit {k : Nat} {x : Int} (h : kOK k x) (hk : bK k = true) : 0 ≤ x ∧ x ≤ 1 := by
  have := Nat.eq_of_beq_eq_true hk
  subst this
  exact h
theorem kOK_int {k : Nat} {x : Int} (h : kOK k x) (hk : iK k = true) : isI x := by
  match k, h with
  | 0, _ => simp [iK] at hk
  | 1, _ => simp [iK] at hk
  | 2, h => have h : 0 ≤ x ∧ x ≤ 256 := h; unfold isI; omega
  | 3, h => have h : 0 ≤ x ∧ x ≤ 1 := h; unfold isI; omega
  | k + 4, h => exact h
def kLit (z : Int) : Nat := match z with
  | .ofNat n => match Nat.ble n 1 with
    | true => 3
    | false => match Nat.ble n 256 with
      | true => 2
      | false => match Nat.blt n 18446744073709551616 with
        | true => 1
        | false => 0
  | .negSucc n => match Nat.blt n 9223372036854775808 with
    | true => 4
    | false => 0
theorem kLit_ok (z : Int) : kOK (kLit z) z := by
  unfold kLit
  split
  · rename_i n
    split
    · rename_i h; have h := Nat.le_of_ble_eq_true h; exact ⟨Int.natCast_nonneg n, by show (n : Int) ≤ 1; omega⟩
    · split
      · rename_i h; have h := Nat.le_of_ble_eq_true h; exact ⟨Int.natCast_nonneg n, by show (n : Int) ≤ 256; omega⟩
      · split
        · rename_i h; have h : n + 1 ≤ _ := Nat.le_of_ble_eq_true h; exact ⟨Int.natCast_nonneg n, by show (n : Int) < _; omega⟩
        · trivial
  · rename_i n
    split
    · rename_i h
      have h : n + 1 ≤ _ := Nat.le_of_ble_eq_true h
      show isI (Int.negSucc n)
      unfold isI
      omega
    · trivial
def nthK : List Nat → Nat → Option Nat
  | [], _ => none
  | k :: _, 0 => some k
  | _ :: r, n + 1 => nthK r n
def kI (ni : Nat) (ks : List Nat) : IE → Option Nat
  | .lit z => some (kLit z)
  | .var i => match Nat.blt i ni with
    | true => nthK ks (ni - 1 - i)
    | false => none
def kIs (ni : Nat) (ks : List Nat) : List IE → Option (List Nat)
  | [] => some []
  | x :: r => match kI ni ks x, kIs ni ks r with
    | some k, some l => some (k :: l)
    | _, _ => none
def KsOK {D : Dom} (V : VE D) : Nat → List Nat → Prop
  | 0, [] => True
  | n + 1, k :: r => kOK k (V.it n) ∧ KsOK V n r
  | _, _ => False
def kOKs : List Nat → List Int → Prop
  | [], [] => True
  | k :: r, x :: l => kOK k x ∧ kOKs r l
  | _, _ => False
section
variable {D : Dom}
theorem KsOK.get {V : VE D} : ∀ {n : Nat} {ks : List Nat}, KsOK V n ks → ∀ {j k : Nat}, j < n → nthK ks j = some k → kOK k (V.it (n - 1 - j))
  | 0, [], _, j, k, hj, _ => by omega
  | n + 1, k0 :: r, h, 0, k, _, hk => by simp only [nthK, Option.some.injEq] at hk; subst hk; exact h.1
  | n + 1, k0 :: r, h, j + 1, k, hj, hk => by
    have := KsOK.get h.2 (j := j) (k := k) (by omega) hk
    rwa [show n + 1 - 1 - (j + 1) = n - 1 - j by omega]
  | 0, _ :: _, h, _, _, _, _ => h.elim
  | _ + 1, [], h, _, _, _, _ => h.elim
theorem kI_ok {V : VE D} {ni : Nat} {ks : List Nat} (h : KsOK V ni ks) {x : IE} {k : Nat} (hk : kI ni ks x = some k) : kOK k (x.den V) := by
  cases x with
  | lit z => simp only [kI, Option.some.injEq] at hk; subst hk; exact kLit_ok z
  | var i =>
    unfold kI at hk
    dsimp only at hk
    split at hk
    · rename_i hlt
      have hlt : i + 1 ≤ ni := Nat.le_of_ble_eq_true hlt
      have := h.get (j := ni - 1 - i) (by omega) hk
      rwa [show ni - 1 - (ni - 1 - i) = i by omega] at this
    · simp at hk
theorem kIs_ok {V : VE D} {ni : Nat} {ks : List Nat} (h : KsOK V ni ks) : ∀ {xs : List IE} {l : List Nat}, kIs ni ks xs = some l → kOKs l (xs.map (·.den V))
  | [], l, hk => by simp only [kIs, Option.some.injEq] at hk; subst hk; trivial
  | x :: r, l, hk => by
    unfold kIs at hk
    split at hk
    · rename_i k l' h1 h2
      simp only [Option.some.injEq] at hk; subst hk
      exact ⟨kI_ok h h1, kIs_ok h h2⟩
    · simp at hk
def Agree (ne ni : Nat) (V V' : VE D) : Prop := (∀ i, i < ne → V'.el i = V.el i) ∧ ∀ i, i < ni → V'.it i = V.it i
theorem Agree.refl (ne ni : Nat) (V : VE D) : Agree ne ni V V := ⟨fun _ _ => rfl, fun _ _ => rfl⟩
theorem Agree.trans {ne ni ne' ni' : Nat} {V V' V'' : VE D} (h : Agree ne ni V V') (h' : Agree ne' ni' V' V'') (h1 : ne ≤ ne') (h2 : ni ≤ ni') : Agree ne ni V V'' :=
  ⟨fun i hi => (h'.1 i (by omega)).trans (h.1 i hi), fun i hi => (h'.2 i (by omega)).trans (h.2 i hi)⟩
theorem KsOK.agree {V V' : VE D} : ∀ {n : Nat} {ks : List Nat}, KsOK V n ks → (∀ i, i < n → V'.it i = V.it i) → KsOK V' n ks
  | 0, [], _, _ => trivial
  | n + 1, _ :: _, h, ha => ⟨by rw [ha n (by omega)]; exact h.1, h.2.agree fun i hi => ha i (by omega)⟩
  | 0, _ :: _, h, _ => h.elim
  | _ + 1, [], h, _ => h.elim
def feIn (ne : Nat) : FE → Bool
  | .var i => Nat.blt i ne
  | .lit _ _ _ _ => true
def ieIn (ni : Nat) : IE → Bool
  | .var i => Nat.blt i ni
  | .lit _ => true
theorem feIn_den {ne ni : Nat} {V V' : VE D} (ha : Agree ne ni V V') {x : FE} (h : feIn ne x = true) : x.den V' = x.den V := by
  cases x with
  | var i => exact ha.1 i (Nat.le_of_ble_eq_true h)
  | lit => rfl
theorem ieIn_den {ne ni : Nat} {V V' : VE D} (ha : Agree ne ni V V') {x : IE} (h : ieIn ni x = true) : x.den V' = x.den V := by
  cases x with
  | var i => exact ha.2 i (Nat.le_of_ble_eq_true h)
  | lit => rfl
theorem kI_in {ni : Nat} {ks : List Nat} {x : IE} {k : Nat} (h : kI ni ks x = some k) : ieIn ni x = true := by
  cases x with
  | lit => rfl
  | var i =>
    unfold kI at h
    dsimp only at h
    split at h
    · rename_i hh; exact hh
    · simp at h
theorem kIs_in {ni : Nat} {ks : List Nat} : ∀ {xs : List IE} {l : List Nat}, kIs ni ks xs = some l → xs.all (ieIn ni) = true
  | [], _, _ => rfl
  | x :: r, l, h => by
    unfold kIs at h
    split at h
    · rename_i h1 h2; simp [kI_in h1]; simpa using kIs_in h2
    · simp at h
theorem map_den {ne ni : Nat} {V V' : VE D} (ha : Agree ne ni V V') : ∀ {xs : List IE}, xs.all (ieIn ni) = true → xs.map (·.den V') = xs.map (·.den V)
  | [], _ => rfl
  | x :: r, h => by
    simp only [List.all_cons, Bool.and_eq_true] at h
    simp only [List.map_cons]
    rw [ieIn_den ha h.1, map_den ha h.2]
def scIn (ne ni : Nat) : SC → Bool
  | .iv _ i => Nat.blt i ni
  | .wd e _ => feIn ne e
  | _ => true
def saIn (ne ni : Nat) : SA → Bool
  | .c x => scIn ne ni x
  | .agg l => l.all (scIn ne ni)
def svIn (ne ni : Nat) : SV → Bool
  | .a x => saIn ne ni x
  | .tup l => l.all (saIn ne ni)
theorem scIn_is {ne ni : Nat} {V V' : VE D} (ha : Agree ne ni V V') {B : Bs} {x : SC} (h : scIn ne ni x = true) {u : Value} (hx : x.is V B u) : x.is V' B u := by
  cases x with
  | lit => exact hx
  | ptr => exact hx
  | slc => exact hx
  | ifp => exact hx
  | gc => exact hx
  | iv k i => show u = _; rw [ha.2 i (Nat.le_of_ble_eq_true h)]; exact hx
  | wd e i => show u = _; rw [feIn_den ha h]; exact hx
theorem LIs_in {ne ni : Nat} {V V' : VE D} (ha : Agree ne ni V V') {B : Bs} : ∀ {l : List SC} {m : List Value}, l.all (scIn ne ni) = true → LIs V B l m → LIs V' B l m
  | [], [], _, _ => trivial
  | _ :: _, _ :: _, h, hl => by
    simp only [List.all_cons, Bool.and_eq_true] at h
    exact ⟨scIn_is ha h.1 hl.1, LIs_in ha h.2 hl.2⟩
  | [], _ :: _, _, h => h.elim
  | _ :: _, [], _, h => h.elim
theorem saIn_is {ne ni : Nat} {V V' : VE D} (ha : Agree ne ni V V') {B : Bs} {x : SA} (h : saIn ne ni x = true) {u : Value} (hx : x.is V B u) : x.is V' B u := by
  cases x with
  | c x => exact scIn_is ha h hx
  | agg l => obtain ⟨vs, h1, h2⟩ := hx; exact ⟨vs, LIs_in ha h h1, h2⟩
theorem ALIs_in {ne ni : Nat} {V V' : VE D} (ha : Agree ne ni V V') {B : Bs} : ∀ {l : List SA} {m : List Value}, l.all (saIn ne ni) = true → ALIs V B l m → ALIs V' B l m
  | [], [], _, _ => trivial
  | _ :: _, _ :: _, h, hl => by
    simp only [List.all_cons, Bool.and_eq_true] at h
    exact ⟨saIn_is ha h.1 hl.1, ALIs_in ha h.2 hl.2⟩
  | [], _ :: _, _, h => h.elim
  | _ :: _, [], _, h => h.elim
theorem svIn_is {ne ni : Nat} {V V' : VE D} (ha : Agree ne ni V V') {B : Bs} {x : SV} (h : svIn ne ni x = true) {u : Value} (hx : x.is V B u) : x.is V' B u := by
  cases x with
  | a x => exact saIn_is ha h hx
  | tup l => obtain ⟨vs, h1, h2⟩ := hx; exact ⟨vs, ALIs_in ha h h1, h2⟩
theorem SVs_in {ne ni : Nat} {V V' : VE D} (ha : Agree ne ni V V') {B : Bs} : ∀ {l : List SV} {m : List Value}, l.all (svIn ne ni) = true → SVs V B l m → SVs V' B l m
  | [], [], _, _ => trivial
  | _ :: _, _ :: _, h, hl => by
    simp only [List.all_cons, Bool.and_eq_true] at h
    exact ⟨svIn_is ha h.1 hl.1, SVs_in ha h.2 hl.2⟩
  | [], _ :: _, _, h => h.elim
  | _ :: _, [], _, h => h.elim
def memIn (ne ni : Nat) (mem : List (Bool × List SC)) : Bool := mem.all fun p => p.2.all (scIn ne ni)
theorem Rep.agree {ne ni : Nat} {V V' : VE D} (ha : Agree ne ni V V') {S : Nat → Nat → Prop} {w0 : World} {B : Bs} {st : SS} {w : World} (h : Rep S w0 V B st w) (hi : memIn ne ni st.mem = true) : Rep S w0 V' B st w := by
  refine ⟨h.keeps, h.len, fun r m cs b o h1 h2 => ?_, h.wr, h.disj⟩
  obtain ⟨vs, h3, h4⟩ := h.has r m cs b o h1 h2
  have := List.all_eq_true.1 hi (m, cs) (List.mem_of_getElem? h1)
  exact ⟨vs, LIs_in ha this h3, h4⟩
end
/-! the words' leaves -/
def pfK : Nat → List Nat → Option (List Nat)
  | 0, [a, b] => match wK a && wK b with
    | true => some [1, 1]
    | false => none
  | 1, [a, b, c] => match wK a && (wK b && bK c) with
    | true => some [1, 3]
    | false => none
  | 2, [a, b, c] => match wK a && (wK b && bK c) with
    | true => some [1, 3]
    | false => none
  | 3, [a] => match wK a with
    | true => some [2]
    | false => none
  | 10, [a, b, c, d] => match wK a && (wK b && (wK c && wK d)) with
    | true => some [2]
    | false => none
  | 11, [a, b, c, d, n] => match wK a && (wK b && (wK c && (wK d && sK n))) with
    | true => some [1]
    | false => none
  | 12, [a, b, c, d, f, a', b', c', d', g] => match wK a && (wK b && (wK c && (wK d && (iK f && (wK a' && (wK b' && (wK c' && (wK d' && iK g)))))))) with
    | true => some [1, 1, 1, 1, 1]
    | false => none
  | _, _ => none
theorem word_mul {x y : Int} (h1 : isW x) (h2 : isW y) : x * y < 2 ^ 64 * 2 ^ 64 := by
  have h3 : x * y ≤ 2 ^ 64 * y := Int.mul_le_mul_of_nonneg_right (Int.le_of_lt h1.2) h2.1
  have h4 := h2.2
  simp only [Int.reducePow] at *
  omega
theorem mod_word (x : Int) : isW (x % 2 ^ 64) := ⟨Int.emod_nonneg _ (by decide), Int.emod_lt_of_pos _ (by decide)⟩
theorem blen_le {n k : Nat} (h : n < 2 ^ k) : blen n ≤ k := by
  unfold blen
  split
  · omega
  · rename_i h0
    have := (Nat.log2_lt h0).2 h
    omega
theorem blen_lt {n : Nat} : n < 2 ^ blen n := by
  unfold blen
  split
  · rename_i h; subst h; decide
  · exact Nat.lt_log2_self
theorem val4I_word {a b c d : Int} (ha : isW a) (hb : isW b) (hc : isW c) (hd : isW d) : 0 ≤ val4I a b c d ∧ val4I a b c d < 2 ^ 256 := by
  unfold isW at *
  unfold val4I
  simp only [Int.reducePow] at *
  omega
theorem apx_word {v n : Int} (hv : 0 ≤ v) (hn : 0 ≤ n) : isW (apx v n) := by
  unfold apx
  split
  · exact mod_word v
  · rename_i h
    obtain ⟨m, rfl⟩ : ∃ m : Nat, n = m := ⟨n.toNat, by omega⟩
    obtain ⟨x, rfl⟩ : ∃ x : Nat, v = x := ⟨v.toNat, by omega⟩
    simp only [Int.toNat_natCast]
    have h1 : x % 2 ^ m < 2 ^ m := Nat.mod_lt _ (Nat.pow_pos (by decide))
    have h2 : x % 2 ^ m / 2 ^ (m - 33) < 2 ^ 33 := by
      rw [Nat.div_lt_iff_lt_mul (Nat.pow_pos (by decide)), ← Nat.pow_add]
      rwa [show 33 + (m - 33) = m by omega]
    have e : ((x : Int) % 2 ^ m / 2 ^ (m - 33)) = ((x % 2 ^ m / 2 ^ (m - 33) : Nat) : Int) := by simp
    rw [e]
    generalize x % 2 ^ m / 2 ^ (m - 33) = q at *
    unfold isW
    simp only [Int.reducePow] at *
    omega
theorem pfK_ok {k : Nat} {ks rs : List Nat} {xs : List Int} (h : pfK k ks = some rs) (hx : kOKs ks xs) : pfN k xs ∧ kOKs rs (pfF k xs) := by
  unfold pfK at h
  split at h
  · rename_i a b
    split at h
    · rename_i hc
      simp only [Bool.and_eq_true] at hc
      simp only [Option.some.injEq] at h; subst h
      match xs, hx with
      | [x, y], hx =>
        have h1 := kOK_word hx.1 hc.1
        have h2 := kOK_word hx.2.1 hc.2
        refine ⟨⟨h1, h2⟩, ⟨?_, ?_⟩, ⟨?_, ?_⟩, trivial⟩
        · exact Int.ediv_nonneg (Int.mul_nonneg h1.1 h2.1) (by decide)
        · refine Int.ediv_lt_of_lt_mul (by decide) ?_
          exact word_mul h1 h2
        · exact Int.emod_nonneg _ (by decide)
        · exact Int.emod_lt_of_pos _ (by decide)
    · simp at h
  · rename_i a b c
    split at h
    · rename_i hc
      simp only [Bool.and_eq_true] at hc
      simp only [Option.some.injEq] at h; subst h
      match xs, hx with
      | [x, y, z], hx =>
        have h1 := kOK_word hx.1 hc.1
        have h2 := kOK_word hx.2.1 hc.2.1
        have h3 := kOK_bit hx.2.2.1 hc.2.2
        unfold isW at h1 h2
        refine ⟨⟨h1, h2, h3⟩, ⟨?_, ?_⟩, ⟨?_, ?_⟩, trivial⟩ <;> simp only [Int.reducePow] at * <;> omega
    · simp at h
  · rename_i a b c
    split at h
    · rename_i hc
      simp only [Bool.and_eq_true] at hc
      simp only [Option.some.injEq] at h; subst h
      match xs, hx with
      | [x, y, z], hx =>
        have h1 := kOK_word hx.1 hc.1
        have h2 := kOK_word hx.2.1 hc.2.1
        have h3 := kOK_bit hx.2.2.1 hc.2.2
        unfold isW at h1 h2
        refine ⟨⟨h1, h2, h3⟩, ⟨?_, ?_⟩, ⟨?_, ?_⟩, trivial⟩ <;> simp only [Int.reducePow] at * <;> omega
    · simp at h
  · rename_i a
    split at h
    · rename_i hc
      simp only [Option.some.injEq] at h; subst h
      match xs, hx with
      | [x], hx =>
        have h1 := kOK_word hx.1 hc
        have h2 : blen x.toNat ≤ 64 := blen_le (by unfold isW at h1; omega)
        refine ⟨h1, ⟨?_, ?_⟩, trivial⟩
        · exact Int.natCast_nonneg _
        · show (blen x.toNat : Int) ≤ 256; omega
    · simp at h
  · rename_i a b c d
    split at h
    · rename_i hc
      simp only [Bool.and_eq_true] at hc
      simp only [Option.some.injEq] at h; subst h
      match xs, hx with
      | [x, y, z, t], hx =>
        have h1 := kOK_word hx.1 hc.1
        have h2 := kOK_word hx.2.1 hc.2.1
        have h3 := kOK_word hx.2.2.1 hc.2.2.1
        have h4 := kOK_word hx.2.2.2.1 hc.2.2.2
        have h5 := val4I_word h1 h2 h3 h4
        have h6 : blen (val4I x y z t).toNat ≤ 256 := blen_le (by omega)
        refine ⟨⟨h1, h2, h3, h4⟩, ⟨?_, ?_⟩, trivial⟩
        · exact Int.natCast_nonneg _
        · show (blen (val4I x y z t).toNat : Int) ≤ 256; omega
    · simp at h
  · rename_i a b c d n
    split at h
    · rename_i hc
      simp only [Bool.and_eq_true] at hc
      simp only [Option.some.injEq] at h; subst h
      match xs, hx with
      | [x, y, z, t, m], hx =>
        have h1 := kOK_word hx.1 hc.1
        have h2 := kOK_word hx.2.1 hc.2.1
        have h3 := kOK_word hx.2.2.1 hc.2.2.1
        have h4 := kOK_word hx.2.2.2.1 hc.2.2.2.1
        have h5 := kOK_small hx.2.2.2.2.1 hc.2.2.2.2
        exact ⟨⟨h1, h2, h3, h4, h5⟩, apx_word (val4I_word h1 h2 h3 h4).1 h5.1, trivial⟩
    · simp at h
  · rename_i a b c d f a' b' c' d' g
    split at h
    · rename_i hc
      simp only [Bool.and_eq_true] at hc
      simp only [Option.some.injEq] at h; subst h
      match xs, hx with
      | [x, y, z, t, f, x', y', z', t', g], hx =>
        refine ⟨⟨kOK_word hx.1 hc.1, kOK_word hx.2.1 hc.2.1, kOK_word hx.2.2.1 hc.2.2.1, kOK_word hx.2.2.2.1 hc.2.2.2.1, kOK_int hx.2.2.2.2.1 hc.2.2.2.2.1, kOK_word hx.2.2.2.2.2.1 hc.2.2.2.2.2.1, kOK_word hx.2.2.2.2.2.2.1 hc.2.2.2.2.2.2.1, kOK_word hx.2.2.2.2.2.2.2.1 hc.2.2.2.2.2.2.2.1, kOK_word hx.2.2.2.2.2.2.2.2.1 hc.2.2.2.2.2.2.2.2.1, kOK_int hx.2.2.2.2.2.2.2.2.2.1 hc.2.2.2.2.2.2.2.2.2⟩, ?_⟩
        exact ⟨mod_word _, mod_word _, mod_word _, mod_word _, mod_word _, trivial⟩
    · simp at h
  · simp at h
def tmK : Nat → List Nat → Bool
  | 0, [a, b, c, d] => wK a && (wK b && (wK c && wK d))
  | _, _ => false
theorem tmK_ok {k : Nat} {ks : List Nat} {xs : List Int} (h : tmK k ks = true) (hx : kOKs ks xs) : tmN k xs := by
  unfold tmK at h
  split at h
  · simp only [Bool.and_eq_true] at h
    match xs, hx with
    | [x, y, z, w], hx => exact ⟨kOK_word hx.1 h.1, kOK_word hx.2.1 h.2.1, kOK_word hx.2.2.1 h.2.2.1, kOK_word hx.2.2.2.1 h.2.2.2⟩
  · simp at h
def ibK : BinOp → IntKind → Nat → Nat
  | .add, .u64, _ => 1
  | .sub, .u64, _ => 1
  | .mul, .u64, _ => 1
  | .and, .u64, _ => 1
  | .or, .u64, _ => 1
  | .xor, .u64, _ => 1
  | .shl, .u64, _ => 1
  | .andNot, .u64, _ => 1
  | .quo, .u64, _ => 1
  | .shr, .u64, a => match wK a with
    | true => 1
    | false => 0
  | .add, .i64, _ => 4
  | .sub, .i64, _ => 4
  | .mul, .i64, _ => 4
  | .and, .i64, _ => 4
  | .or, .i64, _ => 4
  | .xor, .i64, _ => 4
  | .shl, .i64, _ => 4
  | .andNot, .i64, _ => 4
  | .quo, .i64, _ => 4
  | .shr, .i64, a => match iK a with
    | true => 4
    | false => 0
  | _, _, _ => 0
theorem wrap_u64 (x : Int) : isW (IntKind.wrap .u64 x) := by
  have h1 : IntKind.wrap .u64 x = x % 2 ^ 64 := rfl
  rw [h1]
  exact ⟨Int.emod_nonneg _ (by decide), Int.emod_lt_of_pos _ (by decide)⟩
theorem wrap_i64_eq (x : Int) : IntKind.wrap .i64 x = if x % 2 ^ 64 ≥ 2 ^ 63 then x % 2 ^ 64 - 2 ^ 64 else x % 2 ^ 64 := by
  simp [IntKind.wrap, IntKind.signed, IntKind.bits]
theorem wrap_i64 (x : Int) : isI (IntKind.wrap .i64 x) := by
  rw [wrap_i64_eq]
  unfold isI
  have h1 := Int.emod_nonneg x (show (2 : Int) ^ 64 ≠ 0 by decide)
  have h2 := Int.emod_lt_of_pos x (show (0 : Int) < 2 ^ 64 by decide)
  split <;> omega
theorem shr_word {x : Int} (h : isW x) (n : Nat) : isW (x.fdiv (2 ^ n)) := by
  have hp : (0 : Int) < 2 ^ n := Int.pow_pos (by decide)
  rw [Int.fdiv_eq_ediv_of_nonneg _ (Int.le_of_lt hp)]
  refine ⟨Int.ediv_nonneg h.1 (Int.le_of_lt hp), Int.lt_of_le_of_lt ?_ h.2⟩
  exact Int.ediv_le_self _ h.1
theorem shr_int {x : Int} (h : isI x) (n : Nat) : isI (x.fdiv (2 ^ n)) := by
  have hp : (0 : Int) < 2 ^ n := Int.pow_pos (by decide)
  have h1 : (1 : Int) ≤ 2 ^ n := hp
  rw [Int.fdiv_eq_ediv_of_nonneg _ (Int.le_of_lt hp)]
  unfold isI at *
  constructor
  · rw [Int.le_ediv_iff_mul_le hp]
    have : (-2 ^ 63 : Int) * 2 ^ n ≤ -2 ^ 63 * 1 := Int.mul_le_mul_of_nonpos_left (by decide) h1
    omega
  · refine Int.ediv_lt_of_lt_mul hp ?_
    have : (2 ^ 63 : Int) * 1 ≤ 2 ^ 63 * 2 ^ n := Int.mul_le_mul_of_nonneg_left h1 (by decide)
    omega
theorem ibK_ok (op : BinOp) (k : IntKind) (a : Nat) (x y : Int) (hx : kOK a x) : kOK (ibK op k a) (ibinF op k x y) := by
  unfold ibK
  split <;> first
    | exact wrap_u64 _
    | exact wrap_i64 _
    | trivial
    | (split
       · rename_i h
         first
           | exact shr_word (kOK_word hx h) _
           | exact shr_int (kOK_int hx h) _
       · trivial)
def rowK (ne ni : Nat) (ks : List Nat) : TOp → Option (Nat × Nat × List Nat)
  | .ebin i _ x y => match Nat.beq i ne && (feIn ne x && feIn ne y) with
    | true => some (ne + 1, ni, ks)
    | false => none
  | .eun i _ x => match Nat.beq i ne && feIn ne x with
    | true => some (ne + 1, ni, ks)
    | false => none
  | .pf i n k xs => match Nat.beq i ni, kIs ni ks xs with
    | true, some l => match pfK k l with
      | some rs => match Nat.beq n rs.length with
        | true => some (ne, ni + n, rs.reverse ++ ks)
        | false => none
      | none => none
    | _, _ => none
  | .ibin i op k x y => match Nat.beq i ni && (ieIn ni x && ieIn ni y), kI ni ks x with
    | true, some a => some (ne, ni + 1, ibK op k a :: ks)
    | _, _ => none
  | .ef i n k xs => match Nat.beq i ne && (Nat.beq n (efN k) && xs.all (feIn ne)) with
    | true => some (ne + n, ni, ks)
    | false => none
  | _ => none
def testK (ne ni : Nat) (ks : List Nat) : TOp → Bool
  | .t1 _ x _ => feIn ne x
  | .t2 _ x y _ => feIn ne x && feIn ne y
  | .cmp _ x y _ => ieIn ni x && ieIn ni y
  | .tm k xs _ => match kIs ni ks xs with
    | some l => tmK k l
    | none => false
  | _ => false
def PT.ok : Nat → Nat → List Nat → PT → Bool
  | _, _, _, .done _ _ _ _ => true
  | ne, ni, ks, .row o r => match rowK ne ni ks o with
    | some (ne', ni', ks') => PT.ok ne' ni' ks' r
    | none => false
  | ne, ni, ks, .test o y n => testK ne ni ks o && (PT.ok ne ni ks y && PT.ok ne ni ks n)
  | _, _, _, .stop => true
theorem range_get {α : Type} (L : List α) (d : α) (n i : Nat) (h : L.length = n) (f : Nat → α) (hf : ∀ j, j < n → f (i + j) = L.getD j d) : (List.range n).map (fun j => f (i + j)) = L := by
  apply List.ext_getElem
  · simp [h]
  · intro j h1 h2
    simp only [List.getElem_map, List.getElem_range]
    rw [hf j (by simpa using h1)]
    simp [List.getD, h2]
theorem kOKs_length : ∀ {ks : List Nat} {xs : List Int}, kOKs ks xs → ks.length = xs.length
  | [], [], _ => rfl
  | _ :: _, _ :: _, h => by simp [kOKs_length h.2]
  | [], _ :: _, h => h.elim
  | _ :: _, [], h => h.elim
theorem KsOK.app {D : Dom} {V : VE D} {i : Nat} {ks : List Nat} (hk : KsOK V i ks) : ∀ {rs : List Nat} {ys : List Int}, kOKs rs ys → (∀ j, j < rs.length → V.it (i + j) = ys.getD j 0) → KsOK V (i + rs.length) (rs.reverse ++ ks) := by
  intro rs
  induction rs generalizing i ks with
  | nil => intro ys _ _; simpa using hk
  | cons r rs ih =>
    intro ys h hv
    match ys, h with
    | y :: ys, h =>
      have h0 := hv 0 (by simp)
      have hk' : KsOK V (i + 1) (r :: ks) := ⟨by show kOK r (V.it i); have : V.it i = y := by simpa using h0
                                                 rw [this]; exact h.1, hk⟩
      have := ih hk' (ys := ys) h.2 (fun j hj => by
        have := hv (j + 1) (by simp; omega)
        rw [show i + 1 + j = i + (j + 1) by omega, this]; simp)
      rw [show i + (r :: rs).length = i + 1 + rs.length by simp; omega]
      simpa using this
theorem rowK_ok {ne ni : Nat} {ks : List Nat} {o : TOp} {ne' ni' : Nat} {ks' : List Nat} (h : rowK ne ni ks o = some (ne', ni', ks')) (V : VE FD) (hk : KsOK V ni ks) :
    ∃ V', Agree ne ni V V' ∧ KsOK V' ni' ks' ∧ ne ≤ ne' ∧ ni ≤ ni' ∧ ∀ V'', Agree ne' ni' V' V'' → o.holds V'' := by
  unfold rowK at h
  split at h
  · rename_i i k x y
    split at h
    · rename_i hc
      simp only [Bool.and_eq_true] at hc
      simp only [Option.some.injEq, Prod.mk.injEq] at h; obtain ⟨rfl, rfl, rfl⟩ := h
      have hi := Nat.eq_of_beq_eq_true hc.1
      subst hi
      have ha : Agree i ni V ⟨fun j => if j = i then FD.bin k (x.den V) (y.den V) else V.el j, V.it⟩ := ⟨fun j hj => if_neg (by omega), fun _ _ => rfl⟩
      refine ⟨_, ha, hk.agree fun _ _ => rfl, by omega, by omega, fun V'' h' => ?_⟩
      show V''.el i = FD.bin k (x.den V'') (y.den V'')
      have ha2 := ha.trans h' (by omega) (by omega)
      rw [h'.1 i (by omega), feIn_den ha2 hc.2.1, feIn_den ha2 hc.2.2]
      exact if_pos rfl
    · simp at h
  · rename_i i k x
    split at h
    · rename_i hc
      simp only [Bool.and_eq_true] at hc
      simp only [Option.some.injEq, Prod.mk.injEq] at h; obtain ⟨rfl, rfl, rfl⟩ := h
      have hi := Nat.eq_of_beq_eq_true hc.1
      subst hi
      have ha : Agree i ni V ⟨fun j => if j = i then FD.un k (x.den V) else V.el j, V.it⟩ := ⟨fun j hj => if_neg (by omega), fun _ _ => rfl⟩
      refine ⟨_, ha, hk.agree fun _ _ => rfl, by omega, by omega, fun V'' h' => ?_⟩
      show V''.el i = FD.un k (x.den V'')
      have ha2 := ha.trans h' (by omega) (by omega)
      rw [h'.1 i (by omega), feIn_den ha2 hc.2]
      exact if_pos rfl
    · simp at h
  · rename_i i n k xs
    split at h
    · rename_i l hi hl
      have hi := Nat.eq_of_beq_eq_true hi
      subst hi
      split at h
      · rename_i rs hp
        split at h
        · rename_i hn
          have hn := Nat.eq_of_beq_eq_true hn
          simp only [Option.some.injEq, Prod.mk.injEq] at h; obtain ⟨rfl, rfl, rfl⟩ := h
          have h1 := pfK_ok hp (kIs_ok hk hl)
          have h2 := h1.2
          generalize hq : pfF k (xs.map (·.den V)) = ys at h2
          have hlen := kOKs_length h2
          have ha : Agree ne i V ⟨V.el, fun j => if j < i then V.it j else ys.getD (j - i) 0⟩ := ⟨fun j hj => rfl, fun j hj => if_pos hj⟩
          refine ⟨_, ha, ?_, by omega, by omega, fun V'' h' => ?_⟩
          · subst hn
            exact KsOK.app (hk.agree fun j hj => ha.2 j hj) h2 (fun j hj => by
              show (if i + j < i then _ else _) = _
              rw [if_neg (by omega), show i + j - i = j by omega])
          · have ha2 := ha.trans h' (by omega) (by omega)
            show pfN k (xs.map (·.den V'')) ∧ _ = pfF k (xs.map (·.den V''))
            rw [map_den ha2 (kIs_in hl), hq]
            refine ⟨h1.1, ?_⟩
            refine range_get ys 0 n i (by omega) V''.it (fun j hj => ?_)
            rw [h'.2 (i + j) (by omega)]
            show (if i + j < i then _ else _) = _
            rw [if_neg (by omega), show i + j - i = j by omega]
        · simp at h
      · simp at h
    · simp at h
  · rename_i i op k x y
    split at h
    · rename_i a hc hx
      simp only [Bool.and_eq_true] at hc
      have hi := Nat.eq_of_beq_eq_true hc.1
      subst hi
      simp only [Option.some.injEq, Prod.mk.injEq] at h; obtain ⟨rfl, rfl, rfl⟩ := h
      have ha : Agree ne i V ⟨V.el, fun j => if j = i then ibinF op k (x.den V) (y.den V) else V.it j⟩ := ⟨fun j hj => rfl, fun j hj => if_neg (by omega)⟩
      refine ⟨_, ha, ⟨?_, hk.agree fun j hj => ha.2 j hj⟩, by omega, by omega, fun V'' h' => ?_⟩
      · show kOK _ (if _ then _ else _); rw [if_pos rfl]; exact ibK_ok op k a _ _ (kI_ok hk hx)
      · show V''.it i = ibinF op k (x.den V'') (y.den V'')
        have ha2 := ha.trans h' (by omega) (by omega)
        rw [h'.2 i (by omega), ieIn_den ha2 hc.2.1, ieIn_den ha2 hc.2.2]
        exact if_pos rfl
    · simp at h
  · rename_i i n k xs
    split at h
    · rename_i hc
      simp only [Bool.and_eq_true] at hc
      simp only [Option.some.injEq, Prod.mk.injEq] at h; obtain ⟨rfl, rfl, rfl⟩ := h
      have hi := Nat.eq_of_beq_eq_true hc.1
      subst hi
      have hn := Nat.eq_of_beq_eq_true hc.2.1
      have hlen : (efF k (xs.map (·.den V))).length = n := (efF_length k _).trans hn.symm
      have ha : Agree i ni V ⟨fun j => if j < i then V.el j else (efF k (xs.map (·.den V))).getD (j - i) (0 : Fp), V.it⟩ := ⟨fun j hj => if_pos hj, fun _ _ => rfl⟩
      refine ⟨_, ha, hk.agree fun _ _ => rfl, by omega, by omega, fun V'' h' => ?_⟩
      show (List.range n).map (fun j => V''.el (i + j)) = efF k (xs.map (·.den V''))
      have ha2 := ha.trans h' (by omega) (by omega)
      have hx : xs.map (·.den V'') = xs.map (·.den V) := by
        apply List.map_congr_left
        intro x hx
        exact feIn_den ha2 (List.all_eq_true.1 hc.2.2 x hx)
      refine Eq.trans ?_ (congrArg (efF k) hx).symm
      refine range_get (α := Fp) _ (0 : Fp) n i hlen V''.el (fun j hj => ?_)
      refine (h'.1 (i + j) (by omega)).trans ?_
      refine (if_neg (by omega)).trans ?_
      rw [show i + j - i = j by omega]
    · simp at h
  · simp at h
theorem testK_ok {ne ni : Nat} {ks : List Nat} {o : TOp} (h : testK ne ni ks o = true) (V : VE FD) (hk : KsOK V ni ks) :
    (∀ V'', Agree ne ni V V'' → (flipT true o).holds V'') ∨ (∀ V'', Agree ne ni V V'' → (flipT false o).holds V'') := by
  unfold testK at h
  split at h
  · rename_i k x d
    cases hd : FD.t1 k (x.den V) with
    | true => exact .inl fun V'' h' => by show FD.t1 k (x.den V'') = true; rw [feIn_den h' h, hd]
    | false => exact .inr fun V'' h' => by show FD.t1 k (x.den V'') = false; rw [feIn_den h' h, hd]
  · rename_i k x y d
    simp only [Bool.and_eq_true] at h
    cases hd : FD.t2 k (x.den V) (y.den V) with
    | true => exact .inl fun V'' h' => by show FD.t2 k (x.den V'') (y.den V'') = true; rw [feIn_den h' h.1, feIn_den h' h.2, hd]
    | false => exact .inr fun V'' h' => by show FD.t2 k (x.den V'') (y.den V'') = false; rw [feIn_den h' h.1, feIn_den h' h.2, hd]
  · rename_i op x y d
    simp only [Bool.and_eq_true] at h
    cases hd : cmpF op (x.den V) (y.den V) with
    | true => exact .inl fun V'' h' => by show cmpF op (x.den V'') (y.den V'') = true; rw [ieIn_den h' h.1, ieIn_den h' h.2, hd]
    | false => exact .inr fun V'' h' => by show cmpF op (x.den V'') (y.den V'') = false; rw [ieIn_den h' h.1, ieIn_den h' h.2, hd]
  · rename_i k xs d
    split at h
    · rename_i l hl
      have h1 := tmK_ok h (kIs_ok hk hl)
      cases hd : tmF k (xs.map (·.den V)) with
      | true =>
        refine .inl fun V'' h' => ?_
        show tmN k (xs.map (·.den V'')) ∧ tmF k (xs.map (·.den V'')) = true
        rw [map_den h' (kIs_in hl)]; exact ⟨h1, hd⟩
      | false =>
        refine .inr fun V'' h' => ?_
        show tmN k (xs.map (·.den V'')) ∧ tmF k (xs.map (·.den V'')) = false
        rw [map_den h' (kIs_in hl)]; exact ⟨h1, hd⟩
    · simp at h
  · simp at h
/-- a path is met -/
theorem PT.solve : ∀ (t : PT) {ne ni : Nat} {ks : List Nat}, t.ok ne ni ks = true → ∀ (V : VE FD), KsOK V ni ks → ∃ V', Agree ne ni V V' ∧ t.post V' (fun _ _ => True)
  | .done _ _ _ _, ne, ni, ks, h, V, hk => ⟨V, .refl _ _ _, trivial⟩
  | .stop, ne, ni, ks, h, V, hk => ⟨V, .refl _ _ _, trivial⟩
  | .row o r, ne, ni, ks, h, V, hk => by
    unfold PT.ok at h
    split at h
    · rename_i ne' ni' ks' ho
      obtain ⟨V1, h1, h2, h3, h4, h5⟩ := rowK_ok ho V hk
      obtain ⟨V2, h6, h7⟩ := PT.solve r h V1 h2
      exact ⟨V2, h1.trans h6 h3 h4, h5 V2 h6, h7⟩
    · simp at h
  | .test o y n, ne, ni, ks, h, V, hk => by
    simp only [PT.ok, Bool.and_eq_true] at h
    rcases testK_ok h.1 V hk with ht | ht
    · obtain ⟨V2, h6, h7⟩ := PT.solve y h.2.1 V hk
      exact ⟨V2, h6, .inl ⟨ht V2 h6, h7⟩⟩
    · obtain ⟨V2, h6, h7⟩ := PT.solve n h.2.2 V hk
      exact ⟨V2, h6, .inr ⟨ht V2 h6, h7⟩⟩
theorem PT.post_chk {D : Dom} {V : VE D} {run : List Bool → Option (SS × SV)} {K : List (Bool × List SC) → SV → Prop} :
    ∀ (t : PT) {ds : List Bool} {tr : List TOp}, t.chk run ds tr → (∀ o ∈ tr, o.holds V) → t.post V (fun _ _ => True) →
      (∀ ds mem ne ni tr v, run ds = some (⟨mem, ne, ni, tr, []⟩, v) → (∀ o ∈ tr, o.holds V) → K mem v) → t.post V K
  | .done mem ne ni v, ds, tr, h, hh, _, hK => hK ds mem ne ni tr v h hh
  | .stop, _, _, _, _, _, _ => trivial
  | .row o r, ds, tr, h, hh, hp, hK => ⟨hp.1, PT.post_chk r h (fun o' ho' => by rcases List.mem_cons.1 ho' with e | e; · rw [e]; exact hp.1
                                                                                · exact hh o' e) hp.2 hK⟩
  | .test o y n, ds, tr, h, hh, .inl hp, hK => .inl ⟨hp.1, PT.post_chk y h.1 (fun o' ho' => by rcases List.mem_cons.1 ho' with e | e; · rw [e]; exact hp.1
                                                                                               · exact hh o' e) hp.2 hK⟩
  | .test o y n, ds, tr, h, hh, .inr hp, hK => .inr ⟨hp.1, PT.post_chk n h.2 (fun o' ho' => by rcases List.mem_cons.1 ho' with e | e; · rw [e]; exact hp.1
                                                                                               · exact hh o' e) hp.2 hK⟩
/-- a call whose runs are as the tree says -/
theorem PT.run {P : Program} {call : CallF} (hcall : CallOK P FD call) {f : Nat} {vs : List SV} {mem : List (Bool × List SC)} {ne ni : Nat} {ks : List Nat} (t : PT)
    (hc : t.chk (fun ds => call f vs ⟨mem, ne, ni, [], ds⟩) [] []) (ho : t.ok ne ni ks = true) (hm : memIn ne ni mem = true) (hv : vs.all (svIn ne ni) = true)
    {S : Nat → Nat → Prop} {w0 : World} (V : VE FD) (hk : KsOK V ni ks) {B : Bs} {w : World} {us : List Value} (hr : Rep S w0 V B ⟨mem, ne, ni, [], []⟩ w) (hu : SVs V B vs us) :
    ∃ V', Agree ne ni V V' ∧ t.post V' fun mem' v => Calls P f us.toArray w fun e w' => ∃ u X, e = .returned u ∧ Rep S w0 V' (B ++ X) ⟨mem', 0, 0, [], []⟩ w' ∧ v.is V' (B ++ X) u := by
  obtain ⟨V', ha, hp⟩ := t.solve ho V hk
  refine ⟨V', ha, t.post_chk hc (by simp) hp ?_⟩
  intro ds mem' ne' ni' tr v hrun hh
  refine (hcall.sound f vs _ _ v hrun S w0 V' B w us ((hr.agree ha hm).other rfl) (SVs_in ha hv hu) hh).mono ?_
  rintro e w' ⟨u, X, h1, h2, h3⟩
  exact ⟨u, X, h1, h2.other rfl, h3⟩
/-! leaves on four cells: what is owed of them out of the tree of their runs -/
theorem SC.is_fun {D : Dom} {V : VE D} {B : Bs} {x : SC} {u u' : Value} (h : x.is V B u) (h' : x.is V B u') : u = u' := by
  cases x with
  | ptr r off =>
    obtain ⟨b, o, hb, hu⟩ := h
    obtain ⟨b', o', hb', hu'⟩ := h'
    rw [hb] at hb'; simp only [Option.some.injEq, Prod.mk.injEq] at hb'; obtain ⟨rfl, rfl⟩ := hb'
    rw [hu, hu']
  | slc r off =>
    obtain ⟨b, o, hb, hu⟩ := h
    obtain ⟨b', o', hb', hu'⟩ := h'
    rw [hb] at hb'; simp only [Option.some.injEq, Prod.mk.injEq] at hb'; obtain ⟨rfl, rfl⟩ := hb'
    rw [hu, hu']
  | ifp t r off =>
    obtain ⟨b, o, hb, hu⟩ := h
    obtain ⟨b', o', hb', hu'⟩ := h'
    rw [hb] at hb'; simp only [Option.some.injEq, Prod.mk.injEq] at hb'; obtain ⟨rfl, rfl⟩ := hb'
    rw [hu, hu']
  | gc q g t r off =>
    obtain ⟨_, b, o, hb, hu⟩ := h
    obtain ⟨_, b', o', hb', hu'⟩ := h'
    rw [hb] at hb'; simp only [Option.some.injEq, Prod.mk.injEq] at hb'; obtain ⟨rfl, rfl⟩ := hb'
    rw [hu, hu']
  | lit v => exact Eq.trans h (Eq.symm h')
  | iv k i => exact Eq.trans h (Eq.symm h')
  | wd e i => exact Eq.trans h (Eq.symm h')
theorem LIs_fun {D : Dom} {V : VE D} {B : Bs} : ∀ {l : List SC} {m m' : List Value}, LIs V B l m → LIs V B l m' → m = m'
  | [], [], [], _, _ => rfl
  | _ :: _, _ :: _, _ :: _, h, h' => by rw [SC.is_fun h.1 h'.1, LIs_fun h.2 h'.2]
  | [], _ :: _, _, h, _ => h.elim
  | _ :: _, [], _, h, _ => h.elim
  | [], [], _ :: _, _, h => h.elim
  | _ :: _, _ :: _, [], _, h => h.elim
def cl (s : Nat) : List SC := [.iv .u64 s, .iv .u64 (s + 1), .iv .u64 (s + 2), .iv .u64 (s + 3)]
def nm (s : Nat) : Nat → IE := fun i => .var (s + i)
def pS (r : Nat) : SV := .a (.c (.ptr r 0))
abbrev Mem := List (Bool × List SC)
def lits (vs : List Value) : List SC := vs.map SC.lit
def V2 (e1 e2 : Fp) : VE FD := ⟨fun _ => (0 : Fp), fun i => match i with
  | 0 => wordN (mont e1) 0 | 1 => wordN (mont e1) 1 | 2 => wordN (mont e1) 2 | 3 => wordN (mont e1) 3
  | 4 => wordN (mont e2) 0 | 5 => wordN (mont e2) 1 | 6 => wordN (mont e2) 2 | 7 => wordN (mont e2) 3 | _ => 0⟩
def k8 : List Nat := [1, 1, 1, 1, 1, 1, 1, 1]
theorem wordN_isW (n i : Nat) : isW (wordN n i : Int) := ⟨Int.natCast_nonneg _, by have := wordN_lt n i; omega⟩
theorem k8_ok (e1 e2 : Fp) : KsOK (V2 e1 e2) 8 k8 :=
  ⟨wordN_isW _ _, wordN_isW _ _, wordN_isW _ _, wordN_isW _ _, wordN_isW _ _, wordN_isW _ _, wordN_isW _ _, wordN_isW _ _, trivial⟩
theorem cl0_is (e1 e2 : Fp) (B : Bs) : LIs (V2 e1 e2) B (cl 0) (words4 (D := FD) e1) := ⟨rfl, rfl, rfl, rfl, trivial⟩
theorem cl4_is (e1 e2 : Fp) (B : Bs) : LIs (V2 e1 e2) B (cl 4) (words4 (D := FD) e2) := ⟨rfl, rfl, rfl, rfl, trivial⟩
theorem nm0_den {e1 e2 : Fp} {V : VE FD} (h : Agree 0 8 (V2 e1 e2) V) : ∀ i, i < 4 → (nm 0 i).den V = wordN (mont e1) i := by
  intro i hi
  have h1 : V.it (0 + i) = (V2 e1 e2).it (0 + i) := h.2 (0 + i) (by omega)
  show V.it (0 + i) = _
  rw [h1]
  match i, hi with
  | 0, _ => rfl
  | 1, _ => rfl
  | 2, _ => rfl
  | 3, _ => rfl
theorem nm4_den {e1 e2 : Fp} {V : VE FD} (h : Agree 0 8 (V2 e1 e2) V) : ∀ i, i < 4 → (nm 4 i).den V = wordN (mont e2) i := by
  intro i hi
  have h1 : V.it (4 + i) = (V2 e1 e2).it (4 + i) := h.2 (4 + i) (by omega)
  show V.it (4 + i) = _
  rw [h1]
  match i, hi with
  | 0, _ => rfl
  | 1, _ => rfl
  | 2, _ => rfl
  | 3, _ => rfl
theorem Rg_wr {b o : Nat} {i : Nat} (hi : i < 4) : Rg b o 4 b (o + i) := ⟨rfl, by omega, by omega⟩
section
variable {P : Program}
theorem rep1 {w : World} {b o : Nat} {V : VE FD} {c : List SC} {v : List Value} (h : LIs V [(b, o)] c v) (hc : HasC w b o v) (hl : c.length = 4) (d : List Bool) :
    Rep (Rg b o 4) w V [(b, o)] ⟨[(true, c)], 0, 8, [], d⟩ w := by
  refine ⟨.refl _ _, rfl, ?_, ?_, ?_⟩
  · intro r m cs b' o' h1 h2
    match r, h1, h2 with
    | 0, h1, h2 =>
      simp only [List.getElem?_cons_zero, Option.some.injEq, Prod.mk.injEq] at h1 h2
      obtain ⟨rfl, rfl⟩ := h1; obtain ⟨rfl, rfl⟩ := h2
      exact ⟨v, h, hc⟩
    | r + 1, h1, h2 => simp at h2
  · intro r cs b' o' i h1 h2 hi _
    match r, h1, h2 with
    | 0, h1, h2 =>
      simp only [List.getElem?_cons_zero, Option.some.injEq, Prod.mk.injEq, true_and] at h1 h2
      subst h1; obtain ⟨rfl, rfl⟩ := h2
      exact Rg_wr (by omega)
    | r + 1, h1, h2 => simp at h2
  · intro r r' m cs m' cs' b1 o1 b2 o2 i j hne h1 h2 hb1 hb2
    match r, r', hb1, hb2 with
    | 0, 0, _, _ => exact (hne rfl).elim
    | r + 1, _, hb1, _ => simp at hb1
    | 0, r' + 1, _, hb2 => simp at hb2
/-- one place more, that is only read -/
theorem Rep.more1 {S : Nat → Nat → Prop} {w0 w : World} {V : VE FD} {B : Bs} {mem : Mem} {ne ni : Nat} {tr : List TOp} {ds : List Bool} (hr : Rep S w0 V B ⟨mem, ne, ni, tr, ds⟩ w) {b o : Nat} {c : List SC} {v : List Value}
    (h : LIs V (B ++ [(b, o)]) c v) (hc : HasC w b o v)
    (hd : ∀ (r : Nat) (m : Bool) (cs : List SC) (b' o' : Nat), mem[r]? = some (m, cs) → B[r]? = some (b', o') → ∀ i j, i < cs.length → j < c.length → ¬ (b' = b ∧ o' + i = o + j)) :
    Rep S w0 V (B ++ [(b, o)]) ⟨mem ++ [(false, c)], ne, ni, tr, ds⟩ w := by
  have hlen : B.length = mem.length := hr.len
  have look : ∀ (r : Nat) (m : Bool) (cs : List SC) (b' o' : Nat), (mem ++ [(false, c)])[r]? = some (m, cs) → (B ++ [(b, o)])[r]? = some (b', o') → (mem[r]? = some (m, cs) ∧ B[r]? = some (b', o')) ∨ (r = mem.length ∧ m = false ∧ cs = c ∧ b' = b ∧ o' = o) := by
    intro r m cs b' o' h1 h2
    rcases Nat.lt_trichotomy r mem.length with hlt | heq | hgt
    · rw [List.getElem?_append_left hlt] at h1
      rw [List.getElem?_append_left (by omega)] at h2
      exact .inl ⟨h1, h2⟩
    · subst heq
      rw [List.getElem?_append_right (Nat.le_refl _)] at h1
      rw [List.getElem?_append_right (by omega)] at h2
      simp [hlen] at h1 h2
      exact .inr ⟨rfl, h1.1, h1.2.symm, h2.1.symm, h2.2.symm⟩
    · rw [List.getElem?_eq_none (by simp; omega)] at h1; simp at h1
  refine ⟨hr.keeps, by simp [hlen], ?_, ?_, ?_⟩
  · intro r m cs b' o' h1 h2
    rcases look r m cs b' o' h1 h2 with ⟨h3, h4⟩ | ⟨_, _, rfl, rfl, rfl⟩
    · obtain ⟨vs, h5, h6⟩ := hr.has r m cs b' o' h3 h4
      exact ⟨vs, h5.mono _, h6⟩
    · exact ⟨v, h, hc⟩
  · intro r cs b' o' i h1 h2 hi hx
    rcases look r true cs b' o' h1 h2 with ⟨h3, h4⟩ | ⟨_, hf, _⟩
    · exact hr.wr r cs b' o' i h3 h4 hi hx
    · simp at hf
  · intro r r' m cs m' cs' b1 o1 b2 o2 i j hne h1 h2 hb1 hb2 hi hj
    rcases look r m cs b1 o1 h1 hb1 with ⟨h3, h4⟩ | ⟨e1, _, rfl, rfl, rfl⟩
    · rcases look r' m' cs' b2 o2 h2 hb2 with ⟨h5, h6⟩ | ⟨e2, _, rfl, rfl, rfl⟩
      · exact hr.disj r r' m cs m' cs' b1 o1 b2 o2 i j hne h3 h5 h4 h6 hi hj
      · exact hd r m cs b1 o1 h3 h4 i j hi hj
    · rcases look r' m' cs' b2 o2 h2 hb2 with ⟨h5, h6⟩ | ⟨e2, _, rfl, rfl, rfl⟩
      · intro ⟨e3, e4⟩
        exact hd r' m' cs' b2 o2 h5 h6 j i hj hi ⟨e3.symm, e4.symm⟩
      · exact (hne (e1.trans e2.symm)).elim
theorem Apart.off {n b o b' o' : Nat} (h : Apart n b o b' o') (hne : ¬ (b = b' ∧ o = o')) : ∀ i j, i < n → j < n → ¬ (b = b' ∧ o + i = o' + j) := h.resolve_left hne
/-- what the value lemma of a leaf says -/
def BinVal (k : Nat) (T : (Nat → IE) → (Nat → IE) → (List SC → Mem) → PT) : Prop :=
  ∀ (V : VE FD) (x y : Nat → IE) (mk : List SC → Mem) (K : Mem → SV → Prop) (e1 e2 : Fp), (∀ i, i < 4 → (x i).den V = wordN (mont e1) i) → (∀ i, i < 4 → (y i).den V = wordN (mont e2) i) →
    (T x y mk).post V K → ∃ cs, K (mk cs) (pS 0) ∧ ∀ B, LIs V B cs (words4 (D := FD) (fpBin k e1 e2))
def BinChk (call : CallF) (f : Nat) (T : (Nat → IE) → (Nat → IE) → (List SC → Mem) → PT) : Prop :=
  (∀ a b c d : Value, (T (nm 0) (nm 4) (fun cs => [(true, cs), (false, cl 0), (false, cl 4)])).chk (fun ds => call f [pS 0, pS 1, pS 2] ⟨[(true, [.lit a, .lit b, .lit c, .lit d]), (false, cl 0), (false, cl 4)], 0, 8, [], ds⟩) [] []) ∧
  (T (nm 0) (nm 4) (fun cs => [(true, cs), (false, cl 4)])).chk (fun ds => call f [pS 0, pS 0, pS 1] ⟨[(true, cl 0), (false, cl 4)], 0, 8, [], ds⟩) [] [] ∧
  (T (nm 0) (nm 4) (fun cs => [(true, cs), (false, cl 0)])).chk (fun ds => call f [pS 0, pS 1, pS 0] ⟨[(true, cl 4), (false, cl 0)], 0, 8, [], ds⟩) [] [] ∧
  (∀ a b c d : Value, (T (nm 0) (nm 0) (fun cs => [(true, cs), (false, cl 0)])).chk (fun ds => call f [pS 0, pS 1, pS 1] ⟨[(true, [.lit a, .lit b, .lit c, .lit d]), (false, cl 0)], 0, 8, [], ds⟩) [] []) ∧
  (T (nm 0) (nm 0) (fun cs => [(true, cs)])).chk (fun ds => call f [pS 0, pS 0, pS 0] ⟨[(true, cl 0)], 0, 8, [], ds⟩) [] []
def BinWf (T : (Nat → IE) → (Nat → IE) → (List SC → Mem) → PT) : Prop := (T (nm 0) (nm 4) (fun _ => [])).ok 0 8 k8 = true ∧ (T (nm 0) (nm 0) (fun _ => [])).ok 0 8 k8 = true ∧ (∀ x y mk, (T x y mk).ok 0 8 k8 = (T x y (fun _ => [])).ok 0 8 k8)
theorem words4_inj {w : World} {b o : Nat} {e e' : Fp} (h : HasC w b o (words4 (D := FD) e)) (h' : HasC w b o (words4 (D := FD) e')) : e = e' := by
  have hw : ∀ i, i < 4 → wordN (mont e) i = wordN (mont e') i := by
    intro i hi
    match i, hi with
    | 0, _ => have := (h 0 _ rfl).1.symm.trans (h' 0 _ rfl).1; simp only [Option.some.injEq, Value.int.injEq, true_and] at this; exact Int.ofNat.inj this
    | 1, _ => have := (h 1 _ rfl).1.symm.trans (h' 1 _ rfl).1; simp only [Option.some.injEq, Value.int.injEq, true_and] at this; exact Int.ofNat.inj this
    | 2, _ => have := (h 2 _ rfl).1.symm.trans (h' 2 _ rfl).1; simp only [Option.some.injEq, Value.int.injEq, true_and] at this; exact Int.ofNat.inj this
    | 3, _ => have := (h 3 _ rfl).1.symm.trans (h' 3 _ rfl).1; simp only [Option.some.injEq, Value.int.injEq, true_and] at this; exact Int.ofNat.inj this
  refine mont_inj ?_
  rw [← val4_wordN (Nat.lt_trans (mont_lt e) (by decide)), ← val4_wordN (Nat.lt_trans (mont_lt e') (by decide)), hw 0 (by omega), hw 1 (by omega), hw 2 (by omega), hw 3 (by omega)]
theorem only1 {b o b1 o1 : Nat} (h : ∀ i j, i < 4 → j < 4 → ¬ (b = b1 ∧ o + i = o1 + j)) {m : Bool} {c1 c2 c3 c4 : SC} {d1 d2 d3 d4 : SC} :
    ∀ (r : Nat) (m' : Bool) (cs : List SC) (b' o' : Nat), ([(m, [c1, c2, c3, c4])] : Mem)[r]? = some (m', cs) → [(b, o)][r]? = some (b', o') → ∀ i j, i < cs.length → j < [d1, d2, d3, d4].length → ¬ (b' = b1 ∧ o' + i = o1 + j) := by
  intro r m' cs b' o' h1 h2 i j hi hj
  match r, h1, h2 with
  | 0, h1, h2 =>
    simp only [List.getElem?_cons_zero, Option.some.injEq, Prod.mk.injEq] at h1 h2
    obtain ⟨rfl, rfl⟩ := h1; obtain ⟨rfl, rfl⟩ := h2
    exact h i j hi hj
  | r + 1, h1, h2 => simp at h2
theorem only2 {b o b1 o1 b2 o2 : Nat} (h : ∀ i j, i < 4 → j < 4 → ¬ (b = b2 ∧ o + i = o2 + j)) (h' : ∀ i j, i < 4 → j < 4 → ¬ (b1 = b2 ∧ o1 + i = o2 + j)) {m m1 : Bool} {c1 c2 c3 c4 g1 g2 g3 g4 d1 d2 d3 d4 : SC} :
    ∀ (r : Nat) (m' : Bool) (cs : List SC) (b' o' : Nat), ([(m, [c1, c2, c3, c4]), (m1, [g1, g2, g3, g4])] : Mem)[r]? = some (m', cs) → [(b, o), (b1, o1)][r]? = some (b', o') → ∀ i j, i < cs.length → j < [d1, d2, d3, d4].length → ¬ (b' = b2 ∧ o' + i = o2 + j) := by
  intro r m' cs b' o' hh1 h2 i j hi hj
  match r, hh1, h2 with
  | 0, h1, h2 =>
    simp only [List.getElem?_cons_zero, Option.some.injEq, Prod.mk.injEq] at h1 h2
    obtain ⟨rfl, rfl⟩ := h1; obtain ⟨rfl, rfl⟩ := h2
    exact h i j hi hj
  | 1, h1, h2 =>
    simp only [List.getElem?_cons_succ, List.getElem?_cons_zero, Option.some.injEq, Prod.mk.injEq] at h1 h2
    obtain ⟨rfl, rfl⟩ := h1; obtain ⟨rfl, rfl⟩ := h2
    exact h' i j hi hj
  | r + 2, h1, h2 => simp at h2
theorem ebin_leaf {call : CallF} (hcall : CallOK P FD call) {f k : Nat} {T : (Nat → IE) → (Nat → IE) → (List SC → Mem) → PT} (hc : BinChk call f T) (hw : BinWf T) (hv : BinVal k T) : PrimOK P FD f (.p (.ebin k)) := by
  intro w b o b1 o1 b2 o2 e1 e2 old hz hol hx hy a01 a02 a12
  obtain ⟨hc1, hc2, hc3, hc4, hc5⟩ := hc
  obtain ⟨hw1, hw2, hw3⟩ := hw
  -- the end, alike in all cases
  have fin : ∀ (V' : VE FD) (B : Bs) (rest : Mem) (cs : List SC) (us : Array Value), (∀ B, LIs V' B cs (words4 (D := FD) (fpBin k e1 e2))) → B[0]? = some (b, o) →
      (Calls P f us w fun e w' => ∃ u X, e = .returned u ∧ Rep (Rg b o 4) w V' (B ++ X) ⟨(true, cs) :: rest, 0, 0, [], []⟩ w' ∧ (pS 0).is V' (B ++ X) u) →
      Calls P f us w fun e w' => e = .returned (pt b o) ∧ Keeps (Rg b o 4) w w' ∧ HasC w' b o (words4 (D := FD) (fpBin k e1 e2)) := by
    intro V' B rest cs us hcs hB h
    refine h.mono ?_
    rintro e w' ⟨u, X, rfl, hr, hu⟩
    have hB' : (B ++ X)[0]? = some (b, o) := by
      rw [List.getElem?_append_left]; · exact hB
      exact (List.getElem?_eq_some_iff.mp hB).1
    obtain ⟨b', o', hb, rfl⟩ := hu
    rw [hB'] at hb; simp only [Option.some.injEq, Prod.mk.injEq] at hb; obtain ⟨rfl, rfl⟩ := hb
    obtain ⟨vs, h1, h2⟩ := hr.has 0 true cs b o rfl hB'
    have := LIs_fun h1 (hcs _)
    subst this
    exact ⟨rfl, hr.keeps, h2⟩
  -- one case
  have go : ∀ (B : Bs) (V : VE FD) (x y : Nat → IE) (m0 rest : Mem) (vs : List SV) (us : List Value) (u1 u2 : Fp), u1 = e1 → u2 = e2 → B[0]? = some (b, o) → KsOK V 8 k8 → (∀ V', Agree 0 8 V V' → ∀ i, i < 4 → (x i).den V' = wordN (mont u1) i) → (∀ V', Agree 0 8 V V' → ∀ i, i < 4 → (y i).den V' = wordN (mont u2) i) →
      (T x y (fun cs => (true, cs) :: rest)).chk (fun ds => call f vs ⟨m0, 0, 8, [], ds⟩) [] [] → (T x y (fun cs => (true, cs) :: rest)).ok 0 8 k8 = true → memIn 0 8 m0 = true → vs.all (svIn 0 8) = true →
      Rep (Rg b o 4) w V B ⟨m0, 0, 8, [], []⟩ w → SVs V B vs us → Calls P f us.toArray w fun e w' => e = .returned (pt b o) ∧ Keeps (Rg b o 4) w w' ∧ HasC w' b o (words4 (D := FD) (fpBin k e1 e2)) := by
    rintro B V x y m0 rest vs us u1 u2 rfl rfl hB hk hx hy h1 h2 h3 h4 h5 h6
    obtain ⟨V', ha, hp⟩ := PT.run hcall _ h1 h2 h3 h4 V hk h5 h6
    obtain ⟨cs, h7, h8⟩ := hv V' _ _ _ _ _ _ (hx V' ha) (hy V' ha) hp
    exact fin V' _ rest cs _ h8 hB h7
  by_cases e12 : b1 = b2 ∧ o1 = o2
  · obtain ⟨rfl, rfl⟩ := e12
    have hee := words4_inj hx hy
    by_cases e01 : b = b1 ∧ o = o1
    · obtain ⟨rfl, rfl⟩ := e01
      exact go [(b, o)] (V2 e1 e1) _ _ _ [] _ [pt b o, pt b o, pt b o] e1 e1 rfl hee rfl (k8_ok _ _) (fun V' h => nm0_den h) (fun V' h => nm0_den h) hc5 (by rw [hw3]; exact hw2) rfl rfl
        (rep1 (cl0_is e1 e1 [(b, o)]) hx rfl []) ⟨⟨b, o, rfl, rfl⟩, ⟨b, o, rfl, rfl⟩, ⟨b, o, rfl, rfl⟩, trivial⟩
    · match old, hol with
      | [va, vb, vc, vd], _ =>
        exact go [(b, o), (b1, o1)] (V2 e1 e1) _ _ _ [(false, cl 0)] _ [pt b o, pt b1 o1, pt b1 o1] e1 e1 rfl hee rfl (k8_ok _ _) (fun V' h => nm0_den h) (fun V' h => nm0_den h) (hc4 va vb vc vd) (by rw [hw3]; exact hw2) rfl rfl
          ((rep1 (V := V2 e1 e1) (c := [.lit va, .lit vb, .lit vc, .lit vd]) (v := [va, vb, vc, vd]) (LIs.lits _ _ [va, vb, vc, vd]) hz rfl []).more1 (cl0_is e1 e1 _) hx (only1 (a01.off e01)))
          ⟨⟨b, o, rfl, rfl⟩, ⟨b1, o1, rfl, rfl⟩, ⟨b1, o1, rfl, rfl⟩, trivial⟩
  · by_cases e01 : b = b1 ∧ o = o1
    · obtain ⟨rfl, rfl⟩ := e01
      exact go [(b, o), (b2, o2)] (V2 e1 e2) _ _ _ [(false, cl 4)] _ [pt b o, pt b o, pt b2 o2] e1 e2 rfl rfl rfl (k8_ok _ _) (fun V' h => nm0_den h) (fun V' h => nm4_den h) hc2 (by rw [hw3]; exact hw1) rfl rfl
        ((rep1 (cl0_is e1 e2 [(b, o)]) hx rfl []).more1 (cl4_is e1 e2 _) hy (only1 (a02.off e12)))
        ⟨⟨b, o, rfl, rfl⟩, ⟨b, o, rfl, rfl⟩, ⟨b2, o2, rfl, rfl⟩, trivial⟩
    · by_cases e02 : b = b2 ∧ o = o2
      · obtain ⟨rfl, rfl⟩ := e02
        exact go [(b, o), (b1, o1)] (V2 e1 e2) _ _ _ [(false, cl 0)] _ [pt b o, pt b1 o1, pt b o] e1 e2 rfl rfl rfl (k8_ok _ _) (fun V' h => nm0_den h) (fun V' h => nm4_den h) hc3 (by rw [hw3]; exact hw1) rfl rfl
          ((rep1 (cl4_is e1 e2 [(b, o)]) hy rfl []).more1 (cl0_is e1 e2 _) hx (only1 (a01.off e01)))
          ⟨⟨b, o, rfl, rfl⟩, ⟨b1, o1, rfl, rfl⟩, ⟨b, o, rfl, rfl⟩, trivial⟩
      · match old, hol with
        | [va, vb, vc, vd], _ =>
          exact go [(b, o), (b1, o1), (b2, o2)] (V2 e1 e2) _ _ _ [(false, cl 0), (false, cl 4)] _ [pt b o, pt b1 o1, pt b2 o2] e1 e2 rfl rfl rfl (k8_ok _ _) (fun V' h => nm0_den h) (fun V' h => nm4_den h) (hc1 va vb vc vd) (by rw [hw3]; exact hw1) rfl rfl
            (((rep1 (V := V2 e1 e2) (c := [.lit va, .lit vb, .lit vc, .lit vd]) (v := [va, vb, vc, vd]) (LIs.lits _ _ [va, vb, vc, vd]) hz rfl []).more1 (cl0_is e1 e2 _) hx (only1 (a01.off e01))).more1 (cl4_is e1 e2 _) hy (only2 (a02.off e02) (a12.off e12)))
            ⟨⟨b, o, rfl, rfl⟩, ⟨b1, o1, rfl, rfl⟩, ⟨b2, o2, rfl, rfl⟩, trivial⟩
/-- the same of one argument -/
def UnVal (k : Nat) (T : (Nat → IE) → (List SC → Mem) → PT) : Prop :=
  ∀ (V : VE FD) (x : Nat → IE) (mk : List SC → Mem) (K : Mem → SV → Prop) (e1 : Fp), (∀ i, i < 4 → (x i).den V = wordN (mont e1) i) →
    (T x mk).post V K → ∃ cs, K (mk cs) (pS 0) ∧ ∀ B, LIs V B cs (words4 (D := FD) (fpUn k e1))
def UnChk (call : CallF) (f : Nat) (T : (Nat → IE) → (List SC → Mem) → PT) : Prop :=
  (∀ a b c d : Value, (T (nm 0) (fun cs => [(true, cs), (false, cl 0)])).chk (fun ds => call f [pS 0, pS 1] ⟨[(true, [.lit a, .lit b, .lit c, .lit d]), (false, cl 0)], 0, 8, [], ds⟩) [] []) ∧
  (T (nm 0) (fun cs => [(true, cs)])).chk (fun ds => call f [pS 0, pS 0] ⟨[(true, cl 0)], 0, 8, [], ds⟩) [] []
def UnWf (T : (Nat → IE) → (List SC → Mem) → PT) : Prop := (T (nm 0) (fun _ => [])).ok 0 8 k8 = true ∧ (∀ x mk, (T x mk).ok 0 8 k8 = (T x (fun _ => [])).ok 0 8 k8)
theorem eun_leaf {call : CallF} (hcall : CallOK P FD call) {f k : Nat} {T : (Nat → IE) → (List SC → Mem) → PT} (hc : UnChk call f T) (hw : UnWf T) (hv : UnVal k T) : PrimOK P FD f (.p (.eun k)) := by
  intro w b o b1 o1 e1 old hz hol hx a01
  obtain ⟨hc1, hc2⟩ := hc
  obtain ⟨hw1, hw3⟩ := hw
  have fin : ∀ (V' : VE FD) (B : Bs) (rest : Mem) (cs : List SC) (us : Array Value), (∀ B, LIs V' B cs (words4 (D := FD) (fpUn k e1))) → B[0]? = some (b, o) →
      (Calls P f us w fun e w' => ∃ u X, e = .returned u ∧ Rep (Rg b o 4) w V' (B ++ X) ⟨(true, cs) :: rest, 0, 0, [], []⟩ w' ∧ (pS 0).is V' (B ++ X) u) →
      Calls P f us w fun e w' => e = .returned (pt b o) ∧ Keeps (Rg b o 4) w w' ∧ HasC w' b o (words4 (D := FD) (fpUn k e1)) := by
    intro V' B rest cs us hcs hB h
    refine h.mono ?_
    rintro e w' ⟨u, X, rfl, hr, hu⟩
    have hB' : (B ++ X)[0]? = some (b, o) := by
      rw [List.getElem?_append_left]; · exact hB
      exact (List.getElem?_eq_some_iff.mp hB).1
    obtain ⟨b', o', hb, rfl⟩ := hu
    rw [hB'] at hb; simp only [Option.some.injEq, Prod.mk.injEq] at hb; obtain ⟨rfl, rfl⟩ := hb
    obtain ⟨vs, h1, h2⟩ := hr.has 0 true cs b o rfl hB'
    have := LIs_fun h1 (hcs _)
    subst this
    exact ⟨rfl, hr.keeps, h2⟩
  have go : ∀ (B : Bs) (m0 rest : Mem) (vs : List SV) (us : List Value), B[0]? = some (b, o) →
      (T (nm 0) (fun cs => (true, cs) :: rest)).chk (fun ds => call f vs ⟨m0, 0, 8, [], ds⟩) [] [] → memIn 0 8 m0 = true → vs.all (svIn 0 8) = true →
      Rep (Rg b o 4) w (V2 e1 e1) B ⟨m0, 0, 8, [], []⟩ w → SVs (V2 e1 e1) B vs us → Calls P f us.toArray w fun e w' => e = .returned (pt b o) ∧ Keeps (Rg b o 4) w w' ∧ HasC w' b o (words4 (D := FD) (fpUn k e1)) := by
    intro B m0 rest vs us hB h1 h3 h4 h5 h6
    obtain ⟨V', ha, hp⟩ := PT.run hcall _ h1 (by rw [hw3]; exact hw1) h3 h4 (V2 e1 e1) (k8_ok _ _) h5 h6
    obtain ⟨cs, h7, h8⟩ := hv V' _ _ _ _ (nm0_den ha) hp
    exact fin V' _ rest cs _ h8 hB h7
  by_cases e01 : b = b1 ∧ o = o1
  · obtain ⟨rfl, rfl⟩ := e01
    exact go [(b, o)] _ [] _ [pt b o, pt b o] rfl hc2 rfl rfl (rep1 (cl0_is e1 e1 [(b, o)]) hx rfl []) ⟨⟨b, o, rfl, rfl⟩, ⟨b, o, rfl, rfl⟩, trivial⟩
  · match old, hol with
    | [va, vb, vc, vd], _ =>
      exact go [(b, o), (b1, o1)] _ [(false, cl 0)] _ [pt b o, pt b1 o1] rfl (hc1 va vb vc vd) rfl rfl
        ((rep1 (V := V2 e1 e1) (c := [.lit va, .lit vb, .lit vc, .lit vd]) (v := [va, vb, vc, vd]) (LIs.lits _ _ [va, vb, vc, vd]) hz rfl []).more1 (cl0_is e1 e1 _) hx (only1 (a01.off e01)))
        ⟨⟨b, o, rfl, rfl⟩, ⟨b1, o1, rfl, rfl⟩, trivial⟩
end
end Go.Proofs.YtnmkmbjbaagojaaGreatDoor
