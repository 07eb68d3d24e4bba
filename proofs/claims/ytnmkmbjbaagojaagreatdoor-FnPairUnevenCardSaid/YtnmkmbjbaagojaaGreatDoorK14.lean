/- A part of the proof of laws.FnPairUneven. -/
import Derived.Test.YtnmkmbjbaagojaaGreatDoorK12
namespace Go.Proofs.YtnmkmbjbaagojaaGreatDoor
open Go
set_option maxRecDepth 100000
set_option linter.unusedVariables false
set_option linter.unusedSimpArgs false
/-! functions on several elements out of their runs: one run for each way in which the pointers may be the same -/
def wS : Nat → Nat → List SC := fun s n => wdsN s n
/-- a pointer more: of the region c -/
def addR (mem : Mem) (c off n : Nat) (wr : Bool) : Mem :=
  match mem[c]? with
  | some (b, cs) => mem.set c (b || wr, cs)
  | none => mem ++ [(wr, wS off n)]
def memGo : Nat → List (Nat × Bool) → List Nat → Mem → Mem
  | off, (n, wr) :: aas, c :: pat, mem => memGo (off + n) aas pat (addR mem c off n wr)
  | _, _, _, mem => mem
/-- which name an element of the arguments has -/
def sigGo : Nat → List (Nat × Bool) → List Nat → List Nat → List Nat
  | off, (n, _) :: aas, c :: pat, starts => match starts[c]? with
    | some s => (List.range n).map (s + ·) ++ sigGo (off + n) aas pat starts
    | none => (List.range n).map (off + ·) ++ sigGo (off + n) aas pat (starts ++ [off])
  | _, _, _, _ => []
def patsGo (al : List (Nat × Nat)) : Nat → Nat → List Nat → Nat → List (List Nat)
  | _, _, acc, 0 => [acc]
  | i, c, acc, m + 1 => patsGo al (i + 1) (c + 1) (acc ++ [c]) m ++
    (acc.zipIdx.filter fun p => hasP al p.2 i).flatMap fun p => patsGo al (i + 1) c (acc ++ [p.1]) m
def nIn : List (Nat × Bool) → Nat
  | [] => 0
  | (n, _) :: r => n + nIn r
def subF (σ : List Nat) : FE → FE
  | .var i => match nth σ i with
    | some j => .var j
    | none => .var i
  | x => x
def subR (σ : List Nat) : TOp → TOp
  | .ebin i k x y => .ebin i k (subF σ x) (subF σ y)
  | .eun i k x => .eun i k (subF σ x)
  | .ef i n k xs => .ef i n k (xs.map (subF σ))
  | o => o
def wdsL (σ : List Nat) : List FE → List SC
  | [] => []
  | x :: r => wds (subF σ x) ++ wdsL σ r
def argsG (pat : List Nat) : List SV := pat.map fun c => .a (.c (.ptr c 0))
/-- what a run comes to, so far aas it matters -/
def resW : List (Nat × Bool) → List Nat → Mem → List (Option (Bool × List SC))
  | (_, true) :: aas, c :: pat, mem => mem[c]? :: resW aas pat mem
  | (_, false) :: aas, _ :: pat, mem => resW aas pat mem
  | _, _, _ => []
def expW (σ : List Nat) : List (Nat × Bool) → List FE → List (Option (Bool × List SC))
  | (n, true) :: aas, outs => some (true, wdsL σ (outs.take n)) :: expW σ aas (outs.drop n)
  | (_, false) :: aas, outs => expW σ aas outs
  | [], _ => []
def expV (σ : List Nat) (d : GFd) (pat : List Nat) (outs : List FE) : SV :=
  match d.ret, pat with
  | true, c :: _ => .a (.c (.ptr c 0))
  | _, _ => match d.ro with
    | 0 => .tup []
    | _ + 1 => .a (.agg (wdsL σ (outs.drop (outA d.as))))
def sigG (d : GFd) (pat : List Nat) : List Nat := sigGo 0 d.as pat []
def runG (call : CallF) (f : Nat) (d : GFd) (pat : List Nat) : Option (List TOp × List Bool × List (Option (Bool × List SC)) × SV) :=
  match call f (argsG pat) ⟨memGo 0 d.as pat [], nIn d.as, 0, [], []⟩ with
  | some (st, v) => some (st.tr, st.dec, resW d.as pat st.mem, v)
  | none => none
def wantG (t : SLP) (d : GFd) (pat : List Nat) : Option (List TOp × List Bool × List (Option (Bool × List SC)) × SV) :=
  some ((t.rows.map (subR (sigG d pat))).reverse, [], expW (sigG d pat) d.as t.outs, expV (sigG d pat) d pat t.outs)
/-- a table's rows name what they give one after the other, of functions below a bound -/
def slpOk (bnd : Nat) : Nat → List TOp → Option Nat
  | ne, [] => some ne
  | ne, .ebin i _ x y :: r => match Nat.beq i ne && (feIn ne x && feIn ne y) with
    | true => slpOk bnd (ne + 1) r
    | false => none
  | ne, .eun i _ x :: r => match Nat.beq i ne && feIn ne x with
    | true => slpOk bnd (ne + 1) r
    | false => none
  | ne, .ef i n k xs :: r => match Nat.beq i ne && (Nat.blt k bnd && (Nat.beq n (efN k) && xs.all (feIn ne))) with
    | true => slpOk bnd (ne + n) r
    | false => none
  | _, _ => none
/-! the table's meaning -/
theorem feE_den (V : VE FD) (x : FE) : feE V.el x = (x.den V : Fp) := by
  cases x <;> rfl
theorem runE_below (F : Nat → List Fp → List Fp) (bnd : Nat) : ∀ (rows : List TOp) (ne ne' : Nat) (e : Nat → Fp), slpOk bnd ne rows = some ne' → ∀ j, j < ne → runE F rows e j = e j
  | [], _, _, _, _, _, _ => rfl
  | o :: r, ne, ne', e, h, j, hj => by
    unfold slpOk at h
    split at h
    · contradiction
    · rename_i heq
      injection heq with h1 h2
      subst h1; subst h2
      split at h
      · rename_i hc
        simp only [Bool.and_eq_true] at hc
        have hi := Nat.eq_of_beq_eq_true hc.1
        show runE F r (stepE F e _) j = e j
        rw [runE_below F bnd r _ ne' _ h j (by omega)]
        simp only [stepE]
        rw [if_neg (by omega)]
      · simp at h
    · rename_i heq
      injection heq with h1 h2
      subst h1; subst h2
      split at h
      · rename_i hc
        simp only [Bool.and_eq_true] at hc
        have hi := Nat.eq_of_beq_eq_true hc.1
        show runE F r (stepE F e _) j = e j
        rw [runE_below F bnd r _ ne' _ h j (by omega)]
        simp only [stepE]
        rw [if_neg (by omega)]
      · simp at h
    · rename_i heq
      injection heq with h1 h2
      subst h1; subst h2
      split at h
      · rename_i hc
        simp only [Bool.and_eq_true] at hc
        have hi := Nat.eq_of_beq_eq_true hc.1
        show runE F r (stepE F e _) j = e j
        rw [runE_below F bnd r _ ne' _ h j (by omega)]
        simp only [stepE]
        rw [if_neg (by omega)]
      · simp at h
    · simp at h
theorem feE_agree {e e' : Nat → Fp} {ne : Nat} (h : ∀ j, j < ne → e' j = e j) {x : FE} (hx : feIn ne x = true) : feE e' x = feE e x := by
  cases x with
  | var i => exact h i (Nat.le_of_ble_eq_true hx)
  | lit => rfl
theorem runE_holds (F : Nat → List Fp → List Fp) (bnd : Nat) (hF : ∀ k xs, k < bnd → F k xs = efF k xs) : ∀ (rows : List TOp) (ne ne' : Nat) (e : Nat → Fp), slpOk bnd ne rows = some ne' →
    ∀ (it : Nat → Int), ∀ o ∈ rows, o.holds (⟨runE F rows e, it⟩ : VE FD)
  | [], _, _, _, _, _, o, ho => by simp at ho
  | o :: r, ne, ne', e, h, it, o', ho => by
    have main : ∀ m, slpOk bnd m r = some ne' → ne ≤ m → (∀ j, j < m → runE F (o :: r) e j = stepE F e o j) → (∀ j, j < ne → stepE F e o j = e j) → o.holds (⟨stepE F e o, it⟩ : VE FD) → (∀ (V : VE FD), (∀ j, j < m → V.el j = stepE F e o j) → o.holds (⟨stepE F e o, it⟩ : VE FD) → V.it = it → o.holds V) → o'.holds (⟨runE F (o :: r) e, it⟩ : VE FD) := by
      intro m hm hle h1 h2 h3 h4
      rcases List.mem_cons.1 ho with e1 | e1
      · rw [e1]; exact h4 _ h1 h3 rfl
      · exact runE_holds F bnd hF r m ne' (stepE F e o) hm it o' e1
    unfold slpOk at h
    split at h
    · contradiction
    · rename_i i k x y r' heq
      injection heq with h1 h2
      subst h1; subst h2
      split at h
      · rename_i hc
        simp only [Bool.and_eq_true] at hc
        have hi := Nat.eq_of_beq_eq_true hc.1
        subst hi
        have hlow : ∀ j, j < i → stepE F e (.ebin i k x y) j = e j := fun j hj => by simp only [stepE]; rw [if_neg (by omega)]
        refine main (i + 1) h (by omega) (fun j hj => runE_below F bnd r _ ne' _ h j hj) hlow ?_ ?_
        · show stepE F e (.ebin i k x y) i = fpBin k (feE _ x) (feE _ y)
          rw [feE_agree hlow hc.2.1, feE_agree hlow hc.2.2]
          simp only [stepE, if_pos]
        · intro V hV hh _
          have hh : stepE F e (.ebin i k x y) i = fpBin k (feE (stepE F e (.ebin i k x y)) x) (feE (stepE F e (.ebin i k x y)) y) := hh
          show V.el i = fpBin k (x.den V) (y.den V)
          have e1 : ∀ z, feIn i z = true → (z.den V : Fp) = feE (stepE F e (.ebin i k x y)) z := fun z hz => by
            rw [← feE_den]; exact feE_agree (fun j hj => hV j (by omega)) hz
          rw [e1 x hc.2.1, e1 y hc.2.2, hV i (by omega)]; exact hh
      · simp at h
    · rename_i i k x r' heq
      injection heq with h1 h2
      subst h1; subst h2
      split at h
      · rename_i hc
        simp only [Bool.and_eq_true] at hc
        have hi := Nat.eq_of_beq_eq_true hc.1
        subst hi
        have hlow : ∀ j, j < i → stepE F e (.eun i k x) j = e j := fun j hj => by simp only [stepE]; rw [if_neg (by omega)]
        refine main (i + 1) h (by omega) (fun j hj => runE_below F bnd r _ ne' _ h j hj) hlow ?_ ?_
        · show stepE F e (.eun i k x) i = fpUn k (feE _ x)
          rw [feE_agree hlow hc.2]
          simp only [stepE, if_pos]
        · intro V hV hh _
          have hh : stepE F e (.eun i k x) i = fpUn k (feE (stepE F e (.eun i k x)) x) := hh
          show V.el i = fpUn k (x.den V)
          have e1 : ∀ z, feIn i z = true → (z.den V : Fp) = feE (stepE F e (.eun i k x)) z := fun z hz => by
            rw [← feE_den]; exact feE_agree (fun j hj => hV j (by omega)) hz
          rw [e1 x hc.2, hV i (by omega)]; exact hh
      · simp at h
    · rename_i i n k xs r' heq
      injection heq with h1 h2
      subst h1; subst h2
      split at h
      · rename_i hc
        simp only [Bool.and_eq_true] at hc
        obtain ⟨hi, hk, hn, hxs⟩ := hc
        have hi := Nat.eq_of_beq_eq_true hi
        subst hi
        have hk : k < bnd := Nat.le_of_ble_eq_true hk
        have hn := Nat.eq_of_beq_eq_true hn
        have hlow : ∀ j, j < i → stepE F e (.ef i n k xs) j = e j := fun j hj => by simp only [stepE]; rw [if_neg (by omega)]
        have hmap : ∀ (e' : Nat → Fp), (∀ j, j < i → e' j = e j) → xs.map (feE e') = xs.map (feE e) := fun e' he => by
          apply List.map_congr_left
          intro x hx
          exact feE_agree he (List.all_eq_true.1 hxs x hx)
        have hval : ∀ (V : VE FD), (∀ j, j < i + n → V.el j = stepE F e (.ef i n k xs) j) → (List.range n).map (fun j => V.el (i + j)) = efF k (xs.map (·.den V)) := by
          intro V hV
          have e2 : xs.map (fun x => (x.den V : Fp)) = xs.map (feE e) := by
            rw [← hmap V.el (fun j hj => (hV j (by omega)).trans (hlow j hj))]
            apply List.map_congr_left
            intro x _
            exact (feE_den V x).symm
          refine Eq.trans ?_ (congrArg (efF k) e2).symm
          refine range_get (α := Fp) _ (0 : Fp) n i ((efF_length k _).trans hn.symm) V.el (fun j hj => ?_)
          refine (hV (i + j) (by omega)).trans ?_
          simp only [stepE]
          rw [if_pos (by omega), hF k _ hk, show i + j - i = j by omega]
        refine main (i + n) h (by omega) (fun j hj => runE_below F bnd r _ ne' _ h j hj) hlow (hval _ fun _ _ => rfl) ?_
        intro V hV _ _
        exact hval V hV
      · simp at h
    · simp at h
/-! the arguments -/
theorem wS_length (s n : Nat) : (wS s n).length = 4 * n := wdsN_length n s
/-- a region more, of old cells -/
theorem Rep.moreW {D : Dom} {S : Nat → Nat → Prop} {w0 w : World} {V : VE D} {B : Bs} {mem : Mem} (hr : Rep S w0 V B ⟨mem, 0, 0, [], []⟩ w) {b o : Nat} {fl : Bool} {c : List SC} {v : List Value}
    (h : LIs V (B ++ [(b, o)]) c v) (hc : HasC w b o v) (hs : fl = true → ∀ i, i < c.length → S b (o + i))
    (hd : ∀ (r : Nat) (m : Bool) (cs : List SC) (b' o' : Nat), mem[r]? = some (m, cs) → B[r]? = some (b', o') → ∀ i j, i < cs.length → j < c.length → ¬ (b' = b ∧ o' + i = o + j)) :
    Rep S w0 V (B ++ [(b, o)]) ⟨mem ++ [(fl, c)], 0, 0, [], []⟩ w := by
  have hB : ∀ (r b1 o1 : Nat), (B ++ [(b, o)])[r]? = some (b1, o1) → (r < B.length ∧ B[r]? = some (b1, o1)) ∨ (r = B.length ∧ b1 = b ∧ o1 = o) := by
    intro r b1 o1 hr'
    rcases Nat.lt_trichotomy r B.length with hlt | rfl | hgt
    · rw [List.getElem?_append_left hlt] at hr'; exact .inl ⟨hlt, hr'⟩
    · rw [List.getElem?_append_right (Nat.le_refl _)] at hr'
      simp at hr'; exact .inr ⟨rfl, hr'.1.symm, hr'.2.symm⟩
    · rw [List.getElem?_eq_none (by simp; omega)] at hr'; simp at hr'
  have hl : B.length = mem.length := hr.len
  have hM : ∀ (r : Nat) (x : Bool × List SC), (mem ++ [(fl, c)])[r]? = some x → (r < B.length ∧ mem[r]? = some x) ∨ (r = B.length ∧ x = (fl, c)) := by
    intro r x hr'
    rw [hl]
    rcases Nat.lt_trichotomy r mem.length with hlt | rfl | hgt
    · rw [List.getElem?_append_left hlt] at hr'; exact .inl ⟨hlt, hr'⟩
    · rw [List.getElem?_append_right (Nat.le_refl _)] at hr'
      simp at hr'; exact .inr ⟨rfl, hr'.symm⟩
    · rw [List.getElem?_eq_none (by simp; omega)] at hr'; simp at hr'
  refine ⟨hr.keeps, by simp [hl], ?_, ?_, ?_⟩
  · intro r m cs b1 o1 h1 h2
    rcases hM r _ h1 with ⟨h3, h4⟩ | ⟨h3, h4⟩
    · rcases hB r _ _ h2 with ⟨_, h5⟩ | ⟨h5, _⟩
      · obtain ⟨vs, h6, h7⟩ := hr.has r m cs b1 o1 h4 h5
        exact ⟨vs, h6.mono _, h7⟩
      · omega
    · rcases hB r _ _ h2 with ⟨h5, _⟩ | ⟨_, rfl, rfl⟩
      · omega
      · simp only [Prod.mk.injEq] at h4
        obtain ⟨rfl, rfl⟩ := h4
        exact ⟨v, h, hc⟩
  · intro r cs b1 o1 i h1 h2 hi hx
    rcases hM r _ h1 with ⟨h3, h4⟩ | ⟨h3, h4⟩
    · rcases hB r _ _ h2 with ⟨_, h5⟩ | ⟨h5, _⟩
      · exact hr.wr r cs b1 o1 i h4 h5 hi hx
      · omega
    · rcases hB r _ _ h2 with ⟨h5, _⟩ | ⟨_, rfl, rfl⟩
      · omega
      · simp only [Prod.mk.injEq] at h4
        obtain ⟨h6, rfl⟩ := h4
        exact hs h6.symm i hi
  · intro r r' m1 cs1 m2 cs2 b1 o1 b2 o2 i j hne h1 h2 hb1 hb2 hi hj
    rcases hM r _ h1 with ⟨h3, h4⟩ | ⟨h3, h4⟩
    · rcases hB r _ _ hb1 with ⟨_, h5⟩ | ⟨h5, _⟩
      · rcases hM r' _ h2 with ⟨h6, h7⟩ | ⟨h6, h7⟩
        · rcases hB r' _ _ hb2 with ⟨_, h8⟩ | ⟨h8, _⟩
          · exact hr.disj r r' m1 cs1 m2 cs2 b1 o1 b2 o2 i j hne h4 h7 h5 h8 hi hj
          · omega
        · rcases hB r' _ _ hb2 with ⟨h8, _⟩ | ⟨_, rfl, rfl⟩
          · omega
          · simp only [Prod.mk.injEq] at h7
            obtain ⟨_, rfl⟩ := h7
            exact hd r m1 cs1 b1 o1 h4 h5 i j hi hj
      · omega
    · rcases hB r _ _ hb1 with ⟨h5, _⟩ | ⟨_, rfl, rfl⟩
      · omega
      · simp only [Prod.mk.injEq] at h4
        obtain ⟨_, rfl⟩ := h4
        rcases hM r' _ h2 with ⟨h6, h7⟩ | ⟨h6, h7⟩
        · rcases hB r' _ _ hb2 with ⟨_, h8⟩ | ⟨h8, _⟩
          · rintro ⟨e1, e2⟩
            exact hd r' m2 cs2 b2 o2 h7 h8 j i hj hi ⟨e1.symm, e2.symm⟩
          · omega
        · omega
/-- a region may be written -/
theorem Rep.flag {D : Dom} {S : Nat → Nat → Prop} {w0 w : World} {V : VE D} {B : Bs} {mem : Mem} (hr : Rep S w0 V B ⟨mem, 0, 0, [], []⟩ w) {r : Nat} {fl wr : Bool} {c : List SC} {b o : Nat} (hm : mem[r]? = some (fl, c)) (hB : B[r]? = some (b, o))
    (hs : wr = true → ∀ i, i < c.length → S b (o + i)) : Rep S w0 V B ⟨mem.set r (fl || wr, c), 0, 0, [], []⟩ w := by
  have hlt := (List.getElem?_eq_some_iff.mp hm).1
  have look : ∀ (r' : Nat) (m : Bool) (cs : List SC), (mem.set r (fl || wr, c))[r']? = some (m, cs) → ∃ m', mem[r']? = some (m', cs) ∧ (m = true → m' = true ∨ r' = r ∧ wr = true) := by
    intro r' m cs h
    rw [List.getElem?_set] at h
    split at h
    · rename_i e
      subst e
      simp only [Option.some.injEq, Prod.mk.injEq] at h
      obtain ⟨rfl, rfl⟩ := h
      exact ⟨fl, hm, fun h => by rcases Bool.or_eq_true _ _ ▸ h with h | h
                                 · exact .inl h
                                 · exact .inr ⟨rfl, h⟩⟩
    · exact ⟨m, h, fun h => .inl h⟩
  refine ⟨hr.keeps, by have := hr.len; simpa using this, ?_, ?_, ?_⟩
  · intro r' m cs b1 o1 h1 h2
    obtain ⟨m', h3, _⟩ := look r' m cs h1
    exact hr.has r' m' cs b1 o1 h3 h2
  · intro r' cs b1 o1 i h1 h2 hi hx
    obtain ⟨m', h3, h4⟩ := look r' true cs h1
    rcases h4 rfl with h5 | ⟨rfl, h5⟩
    · subst h5; exact hr.wr r' cs b1 o1 i h3 h2 hi hx
    · rw [hB] at h2; simp only [Option.some.injEq, Prod.mk.injEq] at h2; obtain ⟨rfl, rfl⟩ := h2
      rw [hm] at h3; simp only [Option.some.injEq, Prod.mk.injEq] at h3; obtain ⟨_, rfl⟩ := h3
      exact hs h5 i hi
  · intro r1 r2 m1 cs1 m2 cs2 b1 o1 b2 o2 i j hne h1 h2 hb1 hb2 hi hj
    obtain ⟨m1', h3, _⟩ := look r1 m1 cs1 h1
    obtain ⟨m2', h4, _⟩ := look r2 m2 cs2 h2
    exact hr.disj r1 r2 m1' cs1 m2' cs2 b1 o1 b2 o2 i j hne h3 h4 hb1 hb2 hi hj
theorem wordsL_append {D : Dom} : ∀ (l m : List D.E), wordsL D (l ++ m) = wordsL D l ++ wordsL D m
  | [], _ => rfl
  | x :: l, m => by simp [wordsL, wordsL_append l m]
theorem wordsL_inj {D : Dom} (hinj : ∀ {w : World} {b o : Nat} {e e' : D.E}, HasC w b o (words4 (D := D) e) → HasC w b o (words4 (D := D) e') → e = e') {w : World} : ∀ {b o : Nat} {l m : List D.E}, HasC w b o (wordsL D l) → HasC w b o (wordsL D m) → l.length = m.length → l = m
  | _, _, [], [], _, _, _ => rfl
  | b, o, x :: l, y :: m, h, h', hl => by
    have e1 := hinj (w := w) (b := b) (o := o) (e := x) (e' := y) (h.part 0 4) (h'.part 0 4)
    have tl : ∀ (z : D.E) (r : List D.E), HasC w b o (wordsL D (z :: r)) → HasC w b (o + 4) (wordsL D r) := by
      intro z r hz i v hi
      have := hz (i + 4) v hi
      rwa [show o + 4 + i = o + (i + 4) by omega]
    rw [e1, wordsL_inj hinj (tl x l h) (tl y m h') (by simpa using hl)]
  | _, _, [], _ :: _, _, _, hl => by simp at hl
  | _, _, _ :: _, [], _, _, hl => by simp at hl
/-- the arguments aas regions -/
theorem build {D : Dom} (d0 : D.E) (hinj : ∀ {w : World} {b o : Nat} {e e' : D.E}, HasC w b o (words4 (D := D) e) → HasC w b o (words4 (D := D) e') → e = e') {S : Nat → Nat → Prop} {V : VE D} {w : World} {al : List (Nat × Nat)} :
    ∀ {aas : List (Nat × Bool)} {ps : List (Nat × Nat)} {ess : List (List D.E)} {off i c : Nat} {acc : List Nat} {B : Bs} {mem : Mem} {starts : List Nat} {dp : List (Nat × Nat)} {dn : List Nat},
      acc.length = i → dp.length = i → dn.length = i → B.length = c → starts.length = c →
      (∀ (j r : Nat), acc[j]? = some r → r < c ∧ B[r]? = dp[j]? ∧ ∃ fl s n, mem[r]? = some (fl, wS s n) ∧ starts[r]? = some s ∧ dn[j]? = some n) →
      (∀ r : Nat, r < c → ∃ j : Nat, acc[j]? = some r) →
      Rep S w V B ⟨mem, 0, 0, [], []⟩ w → ReadsP D w ps (aas.map (·.1)) ess → (∀ e, e < nIn aas → V.el (off + e) = ess.flatten.getD e d0) →
      PairsP al i ps (aas.map (·.1)) → (∀ (j b o n : Nat), dp[j]? = some (b, o) → dn[j]? = some n → RowP al j n b o i ps (aas.map (·.1))) → (∀ x j, SetG ps aas x j → S x j) →
      ∃ pr X, acc ++ pr ∈ patsGo al i c acc aas.length ∧ Rep S w V (B ++ X) ⟨memGo off aas pr mem, 0, 0, [], []⟩ w ∧ pr.length = aas.length ∧
        (∀ (j : Nat) (p : Nat × Nat), ps[j]? = some p → ∃ r : Nat, pr[j]? = some r ∧ (B ++ X)[r]? = some p) ∧
        (sigGo off aas pr starts).length = nIn aas ∧ ∀ (e s : Nat), (sigGo off aas pr starts)[e]? = some s → V.el s = V.el (off + e)
  | [], [], [], off, i, c, acc, B, mem, starts, dp, dn, _, _, _, _, _, _, _, hrep, _, _, _, _, _ =>
    ⟨[], [], by simp [patsGo], by simpa [memGo] using hrep, rfl, by simp, rfl, by simp [sigGo]⟩
  | (n, wr) :: aas, (b, o) :: ps, es :: ess, off, i, c, acc, B, mem, starts, dp, dn, hacc, hdp, hdn, hB, hst, hinv, hreg, hrep, hread, hV, hpairs, hrows, hS => by
    obtain ⟨hn, hc, hread'⟩ := hread
    have hn : es.length = n := hn
    have hlen : B.length = mem.length := hrep.len
    have hVe : ∀ e, e < n → V.el (off + e) = es.getD e d0 := by
      intro e he
      have := hV e (by show e < n + nIn aas; omega)
      rw [this]
      simp only [List.flatten_cons, List.getD_eq_getElem?_getD]
      rw [List.getElem?_append_left (by omega)]
    have hV' : ∀ e, e < nIn aas → V.el (off + n + e) = ess.flatten.getD e d0 := by
      intro e he
      have := hV (n + e) (by show n + e < n + nIn aas; omega)
      rw [Nat.add_assoc, this]
      simp only [List.flatten_cons, List.getD_eq_getElem?_getD]
      rw [List.getElem?_append_right (by omega), hn, Nat.add_sub_cancel_left]
    have hes : es = (List.range n).map fun e => V.el (off + e) := by
      apply List.ext_getElem?
      intro e
      by_cases he : e < n
      · rw [List.getElem?_map, List.getElem?_range he, Option.map_some, hVe e he, List.getD_eq_getElem?_getD, List.getElem?_eq_getElem (by omega)]; rfl
      · rw [List.getElem?_eq_none (by omega), List.getElem?_eq_none (by simp; omega)]
    have hpair : ∀ j b' o' n', dp[j]? = some (b', o') → dn[j]? = some n' → PairP al j i n' b' o' n b o := fun j b' o' n' h1 h2 => (hrows j b' o' n' h1 h2).1
    by_cases hex : ∃ j : Nat, dp[j]? = some (b, o) ∧ hasP al j i = true
    · obtain ⟨j, hj, hal⟩ := hex
      have hjlt : j < i := by rw [← hdp]; exact (List.getElem?_eq_some_iff.mp hj).1
      obtain ⟨r, hr⟩ : ∃ r, acc[j]? = some r := ⟨acc[j]'(by omega), List.getElem?_eq_getElem (by omega)⟩
      obtain ⟨hrc, hBr, fl, s, n0, hm, hs, hdnj⟩ := hinv j r hr
      rw [hj] at hBr
      have hp := hpair j b o n0 hj hdnj
      unfold PairP at hp
      rw [if_pos hal] at hp
      obtain ⟨hnn, _⟩ := hp
      subst hnn
      have hadd : addR mem r off n0 wr = mem.set r (fl || wr, wS s n0) := by unfold addR; rw [hm]
      have hrep' := hrep.flag (wr := wr) hm hBr (fun hw k hk => hS b (o + k) (.inl ⟨hw, rfl, by omega, by rw [wS_length] at hk; omega⟩))
      rw [← hadd] at hrep'
      have hmem' : ∀ r' : Nat, r' < c → ∃ fl', (addR mem r off n0 wr)[r']? = (mem[r']?).map fun p => (fl', p.2) := by
        intro r' hr'
        rw [hadd, List.getElem?_set]
        by_cases e : r = r'
        · subst e; exact ⟨fl || wr, by rw [if_pos rfl, if_pos (by omega), hm]; rfl⟩
        · rw [if_neg e]
          have : r' < mem.length := by omega
          rw [List.getElem?_eq_getElem this]
          exact ⟨mem[r'].1, rfl⟩
      obtain ⟨pr, X, g1, g2, g3, g4, g5, g6⟩ := build d0 hinj (al := al) (aas := aas) (ps := ps) (ess := ess) (off := off + n0) (i := i + 1) (c := c) (acc := acc ++ [r]) (B := B) (mem := addR mem r off n0 wr) (starts := starts) (dp := dp ++ [(b, o)]) (dn := dn ++ [n0])
        (by simp [hacc]) (by simp [hdp]) (by simp [hdn]) hB hst (fun j' r' hj' => by
          rw [List.getElem?_append] at hj'
          split at hj'
          · rename_i hlt
            obtain ⟨h1, h2, fl', s', n', h3, h4, h5⟩ := hinv j' r' hj'
            obtain ⟨fl2, h6⟩ := hmem' r' h1
            refine ⟨h1, by rw [h2, List.getElem?_append_left (by omega)], fl2, s', n', by rw [h6, h3]; rfl, h4, by rw [List.getElem?_append_left (by omega)]; exact h5⟩
          · rename_i hlt
            have hj0 : j' = acc.length := by
              have := (List.getElem?_eq_some_iff.mp hj').1
              simp at this; omega
            subst hj0
            simp at hj'
            subst hj'
            obtain ⟨fl2, h6⟩ := hmem' r hrc
            refine ⟨hrc, ?_, fl2, s, n0, by rw [h6, hm]; rfl, hs, ?_⟩
            · rw [hBr, List.getElem?_append_right (by omega), hacc, hdp]; simp
            · rw [List.getElem?_append_right (by omega), hacc, hdn]; simp)
        (fun r' hr' => by
          obtain ⟨j', hj'⟩ := hreg r' hr'
          exact ⟨j', by rw [List.getElem?_append_left (List.getElem?_eq_some_iff.mp hj').1]; exact hj'⟩)
        hrep' hread' hV' hpairs.2 (fun j' b' o' n' h1 h2 => by
          rw [List.getElem?_append] at h1
          split at h1
          · rename_i hlt
            rw [List.getElem?_append_left (by omega)] at h2
            exact (hrows j' b' o' n' h1 h2).2
          · rename_i hlt
            have hj0 : j' = i := by
              have := (List.getElem?_eq_some_iff.mp h1).1
              simp at this; omega
            subst hj0
            rw [hdp] at h1
            simp at h1
            obtain ⟨rfl, rfl⟩ := h1
            rw [List.getElem?_append_right (by omega), hdn] at h2
            simp at h2
            subst h2
            exact hpairs.1) (fun x k h => hS x k (.inr h))
      refine ⟨r :: pr, X, ?_, ?_, by simp [g3], ?_, ?_, ?_⟩
      · show acc ++ r :: pr ∈ patsGo al (i + 1) (c + 1) (acc ++ [c]) aas.length ++ _
        refine List.mem_append_right _ (List.mem_flatMap.2 ⟨(r, j), List.mem_filter.2 ⟨?_, hal⟩, ?_⟩)
        · rw [List.mk_mem_zipIdx_iff_getElem?]; exact hr
        · simpa using g1
      · exact g2
      · intro k p hk
        cases k with
        | zero =>
          simp only [List.getElem?_cons_zero, Option.some.injEq] at hk; subst hk
          exact ⟨r, rfl, bs_mono X hBr⟩
        | succ k => exact g4 k p (by simpa using hk)
      · have h0 : sigGo off ((n0, wr) :: aas) (r :: pr) starts = (List.range n0).map (s + ·) ++ sigGo (off + n0) aas pr starts := by
          show (match starts[r]? with | some s => _ | none => _) = _
          rw [hs]
        rw [h0]
        simp [g5, nIn]
      · intro e x he
        have he : ((List.range n0).map (s + ·) ++ sigGo (off + n0) aas pr starts)[e]? = some x := by
          have h0 : sigGo off ((n0, wr) :: aas) (r :: pr) starts = (List.range n0).map (s + ·) ++ sigGo (off + n0) aas pr starts := by
            show (match starts[r]? with | some s => _ | none => _) = _
            rw [hs]
          rw [h0] at he; exact he
        rw [List.getElem?_append] at he
        split at he
        · rename_i hlt
          simp at hlt
          rw [List.getElem?_map, List.getElem?_range hlt] at he
          simp at he; subst he
          -- the same cells
          obtain ⟨vs, h1, h2⟩ := hrep.has r fl _ b o hm hBr
          have h3 := wdsN_is V B n0 s
          have h4 := LIs_fun h1 h3
          subst h4
          have h5 := wordsL_inj hinj (l := (List.range n0).map fun j => V.el (s + j)) h2 hc (by simp [hn])
          rw [hes] at h5
          have h6 := congrArg (fun l : List D.E => l[e]?) h5
          simp only [List.getElem?_map, List.getElem?_range hlt, Option.map_some, Option.some.injEq] at h6
          exact h6
        · rename_i hlt
          simp at hlt he
          have := g6 _ _ he
          rw [this]
          congr 1; omega
    · have hno : ∀ j, dp[j]? = some (b, o) → hasP al j i = false := fun j hj => by
        cases hq : hasP al j i with
        | false => rfl
        | true => exact (hex ⟨j, hj, hq⟩).elim
      have hadd : addR mem c off n wr = mem ++ [(wr, wS off n)] := by
        unfold addR; rw [List.getElem?_eq_none (by omega)]
      have hLIs : LIs V (B ++ [(b, o)]) (wS off n) (wordsL D es) := by
        rw [hes]; exact wdsN_is V _ n off
      have hrep' := hrep.moreW (b := b) (o := o) (fl := wr) hLIs hc (fun hw k hk => hS b (o + k) (.inl ⟨hw, rfl, by omega, by rw [wS_length] at hk; omega⟩)) (by
        intro r m cs b' o' hm hBr k k' hk hk'
        obtain ⟨j, hj⟩ := hreg r (by rw [← hB]; exact (List.getElem?_eq_some_iff.mp hBr).1)
        obtain ⟨_, h2, fl, s, n', h3, _, h5⟩ := hinv j r hj
        rw [hm] at h3
        simp only [Option.some.injEq, Prod.mk.injEq] at h3
        obtain ⟨_, rfl⟩ := h3
        rw [hBr] at h2
        have hp := hpair j b' o' n' h2.symm h5
        rw [wS_length] at hk hk'
        unfold PairP at hp
        split at hp
        · rename_i hal
          obtain ⟨rfl, hap⟩ := hp
          refine hap.resolve_left ?_ k k' hk hk'
          rintro ⟨rfl, rfl⟩
          rw [hno j h2.symm] at hal; simp at hal
        · exact hp k k' hk hk')
      rw [← hadd] at hrep'
      obtain ⟨pr, X, g1, g2, g3, g4, g5, g6⟩ := build d0 hinj (al := al) (aas := aas) (ps := ps) (ess := ess) (off := off + n) (i := i + 1) (c := c + 1) (acc := acc ++ [c]) (B := B ++ [(b, o)]) (mem := addR mem c off n wr) (starts := starts ++ [off]) (dp := dp ++ [(b, o)]) (dn := dn ++ [n])
        (by simp [hacc]) (by simp [hdp]) (by simp [hdn]) (by simp [hB]) (by simp [hst]) (fun j' r' hj' => by
          rw [List.getElem?_append] at hj'
          split at hj'
          · rename_i hlt
            obtain ⟨h1, h2, fl', s', n', h3, h4, h5⟩ := hinv j' r' hj'
            refine ⟨by omega, ?_, fl', s', n', ?_, ?_, ?_⟩
            · rw [List.getElem?_append_left (by omega), h2, List.getElem?_append_left (by omega)]
            · rw [hadd, List.getElem?_append_left (by omega)]; exact h3
            · rw [List.getElem?_append_left (by omega)]; exact h4
            · rw [List.getElem?_append_left (by omega)]; exact h5
          · rename_i hlt
            have hj0 : j' = acc.length := by
              have := (List.getElem?_eq_some_iff.mp hj').1
              simp at this; omega
            subst hj0
            simp at hj'
            subst hj'
            refine ⟨by omega, ?_, wr, off, n, ?_, ?_, ?_⟩
            · rw [← hB, List.getElem?_append_right (Nat.le_refl _), List.getElem?_append_right (by omega), hacc, hdp]; simp
            · rw [hadd, ← hB, hlen, List.getElem?_append_right (Nat.le_refl _)]; simp
            · rw [← hst, List.getElem?_append_right (Nat.le_refl _)]; simp
            · rw [List.getElem?_append_right (by omega), hacc, hdn]; simp)
        (fun r' hr' => by
          rcases Nat.lt_or_ge r' c with h | h
          · obtain ⟨j', hj'⟩ := hreg r' h
            exact ⟨j', by rw [List.getElem?_append_left (List.getElem?_eq_some_iff.mp hj').1]; exact hj'⟩
          · exact ⟨acc.length, by rw [List.getElem?_append_right (Nat.le_refl _)]; simp; omega⟩)
        hrep' hread' hV' hpairs.2 (fun j' b' o' n' h1 h2 => by
          rw [List.getElem?_append] at h1
          split at h1
          · rename_i hlt
            rw [List.getElem?_append_left (by omega)] at h2
            exact (hrows j' b' o' n' h1 h2).2
          · rename_i hlt
            have hj0 : j' = i := by
              have := (List.getElem?_eq_some_iff.mp h1).1
              simp at this; omega
            subst hj0
            rw [hdp] at h1
            simp at h1
            obtain ⟨rfl, rfl⟩ := h1
            rw [List.getElem?_append_right (by omega), hdn] at h2
            simp at h2
            subst h2
            exact hpairs.1) (fun x k h => hS x k (.inr h))
      refine ⟨c :: pr, (b, o) :: X, ?_, ?_, by simp [g3], ?_, ?_, ?_⟩
      · show acc ++ c :: pr ∈ patsGo al (i + 1) (c + 1) (acc ++ [c]) aas.length ++ _
        exact List.mem_append_left _ (by simpa using g1)
      · have e1 : (B ++ [(b, o)]) ++ X = B ++ (b, o) :: X := by simp
        rw [e1] at g2
        exact g2
      · intro k p hk
        cases k with
        | zero =>
          simp only [List.getElem?_cons_zero, Option.some.injEq] at hk; subst hk
          exact ⟨c, rfl, by rw [← hB, List.getElem?_append_right (Nat.le_refl _)]; simp⟩
        | succ k =>
          obtain ⟨r, h1, h2⟩ := g4 k p (by simpa using hk)
          exact ⟨r, h1, by simpa using h2⟩
      · have h0 : sigGo off ((n, wr) :: aas) (c :: pr) starts = (List.range n).map (off + ·) ++ sigGo (off + n) aas pr (starts ++ [off]) := by
          show (match starts[c]? with | some s => _ | none => _) = _
          rw [List.getElem?_eq_none (by omega)]
        rw [h0]
        simp [g5, nIn]
      · intro e x he
        have he : ((List.range n).map (off + ·) ++ sigGo (off + n) aas pr (starts ++ [off]))[e]? = some x := by
          have h0 : sigGo off ((n, wr) :: aas) (c :: pr) starts = (List.range n).map (off + ·) ++ sigGo (off + n) aas pr (starts ++ [off]) := by
            show (match starts[c]? with | some s => _ | none => _) = _
            rw [List.getElem?_eq_none (by omega)]
          rw [h0] at he; exact he
        rw [List.getElem?_append] at he
        split at he
        · rename_i hlt
          simp at hlt
          rw [List.getElem?_map, List.getElem?_range hlt] at he
          simp at he; subst he; rfl
        · rename_i hlt
          simp at hlt he
          have := g6 _ _ he
          rw [this]
          congr 1; omega
  | [], _ :: _, _, _, _, _, _, _, _, _, _, _, _, _, _, _, _, _, _, _, h, _, _, _, _ => h.elim
  | [], [], _ :: _, _, _, _, _, _, _, _, _, _, _, _, _, _, _, _, _, _, h, _, _, _, _ => h.elim
  | _ :: _, [], _, _, _, _, _, _, _, _, _, _, _, _, _, _, _, _, _, _, h, _, _, _, _ => h.elim
  | _ :: _, _ :: _, [], _, _, _, _, _, _, _, _, _, _, _, _, _, _, _, _, _, h, _, _, _, _ => h.elim
theorem nth_getElem {α : Type} : ∀ (l : List α) (i : Nat), nth l i = l[i]?
  | [], i => by cases i <;> rfl
  | _ :: _, 0 => rfl
  | _ :: r, i + 1 => by show nth r i = _; rw [nth_getElem r i]; simp
section
variable {σ : List Nat} {V : VE FD}
theorem subF_den (hσ : ∀ (e s : Nat), σ[e]? = some s → V.el s = V.el e) (x : FE) : (subF σ x).den V = x.den V := by
  cases x with
  | var i =>
    unfold subF
    dsimp only
    split
    · rename_i j hj
      rw [nth_getElem] at hj
      exact hσ i j hj
    · rfl
  | lit => rfl
theorem subR_holds (hσ : ∀ (e s : Nat), σ[e]? = some s → V.el s = V.el e) {o : TOp} (h : o.holds V) : (subR σ o).holds V := by
  cases o with
  | ebin i k x y =>
    show V.el i = FD.bin k ((subF σ x).den V) ((subF σ y).den V)
    rw [subF_den hσ, subF_den hσ]; exact h
  | eun i k x =>
    show V.el i = FD.un k ((subF σ x).den V)
    rw [subF_den hσ]; exact h
  | ef i n k xs =>
    show (List.range n).map (fun j => V.el (i + j)) = FD.ef k ((xs.map (subF σ)).map (·.den V))
    have e : (xs.map (subF σ)).map (·.den V) = xs.map (·.den V) := by
      rw [List.map_map]
      exact List.map_congr_left fun x _ => subF_den hσ x
    rw [e]; exact h
  | _ => exact h
theorem wdsL_is (hσ : ∀ (e s : Nat), σ[e]? = some s → V.el s = V.el e) (B : Bs) : ∀ l : List FE, LIs V B (wdsL σ l) (wordsL FD (l.map (·.den V)))
  | [] => trivial
  | x :: l => by
    have h := LIs.append (LIs.wds V B (subF σ x)) (wdsL_is hσ B l)
    rw [subF_den hσ] at h; exact h
end
theorem resW_get {V : VE FD} {σ : List Nat} (hσ : ∀ (e s : Nat), σ[e]? = some s → V.el s = V.el e) {S : Nat → Nat → Prop} {w0 w' : World} {B' : Bs} {st' : SS} (hrep : Rep S w0 V B' st' w') :
    ∀ {aas : List (Nat × Bool)} {pat : List Nat} {qs : List (Nat × Nat)} {outs : List FE}, pat.length = aas.length → qs.length = aas.length → resW aas pat st'.mem = expW σ aas outs →
      (∀ (j : Nat) (p : Nat × Nat), qs[j]? = some p → ∃ r : Nat, pat[j]? = some r ∧ B'[r]? = some p) → WritesG FD w' qs aas (outs.map (·.den V))
  | [], _, _, _, _, _, _, _ => by
    unfold WritesG; split <;> first | trivial | contradiction
  | (n, true) :: aas, c :: pat, (b, o) :: qs, outs, hl, hq, h, hB => by
    simp only [resW, expW, List.cons.injEq] at h
    obtain ⟨r, h1, h2⟩ := hB 0 (b, o) rfl
    simp only [List.getElem?_cons_zero, Option.some.injEq] at h1
    subst h1
    obtain ⟨vs, h3, h4⟩ := hrep.has c true _ b o h.1 h2
    have h5 := LIs_fun h3 (wdsL_is hσ B' (outs.take n))
    subst h5
    refine ⟨by rw [← List.map_take]; exact h4, ?_⟩
    rw [← List.map_drop]
    exact resW_get hσ hrep (by simpa using hl) (by simpa using hq) h.2 (fun j p hp => by
      obtain ⟨r, h6, h7⟩ := hB (j + 1) p (by simpa using hp)
      exact ⟨r, by simpa using h6, h7⟩)
  | (n, false) :: aas, c :: pat, (b, o) :: qs, outs, hl, hq, h, hB => by
    simp only [resW, expW] at h
    show WritesG FD w' qs aas (outs.map (·.den V))
    exact resW_get (aas := aas) (pat := pat) (qs := qs) hσ hrep (by simpa using hl) (by simpa using hq) h (fun j p hp => by
      obtain ⟨r, h6, h7⟩ := hB (j + 1) p (by simpa using hp)
      exact ⟨r, by simpa using h6, h7⟩)
  | _ :: _, [], _, _, hl, _, _, _ => by simp at hl
  | _ :: _, _ :: _, [], _, _, hq, _, _ => by simp at hq
theorem ReadsP.len {D : Dom} {w : World} : ∀ {ps : List (Nat × Nat)} {ns : List Nat} {ess : List (List D.E)}, ReadsP D w ps ns ess → ps.length = ns.length ∧ ess.flatten.length = ns.sum
  | [], [], [], _ => ⟨rfl, rfl⟩
  | _ :: _, _ :: _, _ :: _, h => by
    obtain ⟨h1, h2⟩ := h.2.2.len
    exact ⟨by simp [h1], by simp [h.1, h2]⟩
  | [], _ :: _, _, h => h.elim
  | [], [], _ :: _, h => h.elim
  | _ :: _, [], _, h => h.elim
  | _ :: _, _ :: _, [], h => h.elim
theorem nIn_sum : ∀ aas : List (Nat × Bool), nIn aas = (aas.map (·.1)).sum
  | [] => rfl
  | (n, _) :: r => by simp [nIn, nIn_sum r]
/-- a function on several elements, out of its runs -/
theorem g_leaf {P : Program} {call : CallF} (hcall : CallOK P FD call) {f : Nat} {d : GFd} {F : Nat → List Fp → List Fp} (bnd : Nat) (hF : ∀ k xs, k < bnd → F k xs = efF k xs) (hk : ∀ xs, efF d.k xs = slp F (tbl d.k) xs)
    {ne' : Nat} (hok : slpOk bnd (nIn d.as) (tbl d.k).rows = some ne') (hout : (tbl d.k).outs.length = outA d.as + d.ro)
    (hrun : (patsGo d.al 0 0 [] d.as.length).map (runG call f d) = (patsGo d.al 0 0 [] d.as.length).map (wantG (tbl d.k) d)) : PrimOK P FD f (.g d) := by
  intro w ps ess hread hpairs
  obtain ⟨hl1, hl2⟩ := hread.len
  have hflen : ∀ xs : List Fp, (efF d.k xs).length = outA d.as + d.ro := fun xs => by rw [hk, slp_length, hout]
  refine ⟨hflen _, ?_⟩
  · -- the names
    let V : VE FD := ⟨runE F (tbl d.k).rows (fun j => ess.flatten.getD j (0 : Fp)), fun _ => 0⟩
    have hV0 : ∀ e, e < nIn d.as → V.el e = ess.flatten.getD e (0 : Fp) := fun e he => runE_below F bnd _ _ _ _ hok e he
    obtain ⟨pat, X, hpat, hrep, hpl, hB, hsl, hσ⟩ := build (D := FD) (0 : Fp) (fun h h' => words4_inj h h') (S := SetG ps d.as) (V := V) (w := w) (al := d.al) (aas := d.as) (ps := ps) (ess := ess) (off := 0) (i := 0) (c := 0) (acc := []) (B := []) (mem := []) (starts := []) (dp := []) (dn := [])
      rfl rfl rfl rfl rfl (fun j r h => by simp at h) (fun r h => by omega) (by
        refine ⟨Keeps.refl _ w, rfl, ?_, ?_, ?_⟩
        · intro r m cs b o h; simp at h
        · intro r cs b o i h; simp at h
        · intro r r' m cs m' cs' b o b' o' i j _ h; simp at h) hread (fun e he => by rw [Nat.zero_add]; exact hV0 e he) hpairs (fun j b o n h => by simp at h) (fun _ _ h => h)
    simp only [List.nil_append] at hpat hrep hB
    have hσ' : ∀ (e s : Nat), (sigG d pat)[e]? = some s → V.el s = V.el e := fun e s h => by
      have := hσ e s h
      rwa [Nat.zero_add] at this
    have hone := map_eq_mem hrun pat hpat
    unfold runG wantG at hone
    split at hone
    · rename_i st' v hrun'
      simp only [Option.some.injEq, Prod.mk.injEq] at hone
      obtain ⟨htr, hdec, hres, hv⟩ := hone
      have hrows : ∀ o ∈ st'.tr, o.holds V := by
        intro o ho
        rw [htr, List.mem_reverse] at ho
        obtain ⟨o', ho', rfl⟩ := List.mem_map.1 ho
        exact subR_holds hσ' (runE_holds F bnd hF _ _ _ _ hok _ o' ho')
      have hargs : SVs V X (argsG pat) (ps.map fun p => pt p.1 p.2) := by
        have hlen : pat.length = ps.length := by rw [hpl, hl1]; simp
        have key : ∀ (pat : List Nat) (ps : List (Nat × Nat)), pat.length = ps.length → (∀ (j : Nat) (p : Nat × Nat), ps[j]? = some p → ∃ r : Nat, pat[j]? = some r ∧ X[r]? = some p) → SVs V X (argsG pat) (ps.map fun p => pt p.1 p.2) := by
          intro pat
          induction pat with
          | nil => intro ps hl _; cases ps with
            | nil => trivial
            | cons _ _ => simp at hl
          | cons c pat ih => intro ps hl h; cases ps with
            | nil => simp at hl
            | cons p ps =>
              obtain ⟨r, h1, h2⟩ := h 0 p rfl
              simp only [List.getElem?_cons_zero, Option.some.injEq] at h1
              subst h1
              refine ⟨⟨p.1, p.2, h2, rfl⟩, ih ps (by simpa using hl) fun j q hq => ?_⟩
              obtain ⟨r, h3, h4⟩ := h (j + 1) q (by simpa using hq)
              exact ⟨r, by simpa using h3, h4⟩
        exact key pat ps hlen hB
      refine (hcall.sound f _ _ _ _ hrun' (SetG ps d.as) w V X w _ (hrep.other rfl) hargs hrows).mono ?_
      rintro e w' ⟨u, Y, rfl, hrep', hu⟩
      have houts : (tbl d.k).outs.map (fun x => x.den V) = FD.ef d.k ess.flatten := by
        refine Eq.trans ?_ (hk ess.flatten).symm
        unfold slp
        exact List.map_congr_left fun x _ => (feE_den V x).symm
      have hB' : ∀ (j : Nat) (p : Nat × Nat), ps[j]? = some p → ∃ r : Nat, pat[j]? = some r ∧ (X ++ Y)[r]? = some p := fun j p hp => by
        obtain ⟨r, h1, h2⟩ := hB j p hp
        exact ⟨r, h1, bs_mono Y h2⟩
      have hw := resW_get hσ' hrep' (aas := d.as) (pat := pat) (qs := ps) (outs := (tbl d.k).outs) hpl (by rw [hl1]; simp) hres hB'
      rw [houts] at hw
      refine ⟨?_, hrep'.keeps, hw⟩
      have hno : ∀ (u : Value), (match d.ro with | 0 => SV.tup [] | _ + 1 => .a (.agg (wdsL (sigG d pat) ((tbl d.k).outs.drop (outA d.as))))).is V (X ++ Y) u → u = (match d.ro with | 0 => Value.tuple #[] | _ + 1 => .agg (wordsL FD ((FD.ef d.k ess.flatten).drop (outA d.as))).toArray) := by
        intro u hu
        cases hro : d.ro with
        | zero =>
          rw [hro] at hu
          obtain ⟨vs, h1, h2⟩ := hu
          match vs, h1 with
          | [], _ => exact h2
        | succ m =>
          rw [hro] at hu
          obtain ⟨vs, h1, h2⟩ := hu
          have h3 := LIs_fun h1 (wdsL_is hσ' (X ++ Y) _)
          rw [h2, h3, ← houts, List.map_drop]
      rw [hv] at hu
      unfold expV at hu
      clear hsl hσ hσ' hpat hrep hrun' htr hres hv hargs hw hB' hrep'
      generalize sigG d pat = σ at hu hno
      unfold retVG
      congr 1
      cases hr : d.ret with
      | false => rw [hr] at hu; exact hno u hu
      | true =>
        rw [hr] at hu
        match pat, ps, hu, hB, hpl, hl1 with
        | [], [], hu, _, _, _ => exact hno u hu
        | [], _ :: _, _, hB, _, _ =>
          obtain ⟨r, h1, _⟩ := hB 0 _ rfl
          simp at h1
        | _ :: _, [], _, _, hpl, hl1 =>
          simp only [List.length_cons, List.length_nil, List.length_map] at hl1 hpl
          omega
        | c :: pat, p :: ps, hu, hB, _, _ =>
          obtain ⟨b, o, h1, h2⟩ := hu
          obtain ⟨r, h3, h4⟩ := hB 0 p rfl
          simp only [List.getElem?_cons_zero, Option.some.injEq] at h3
          subst h3
          rw [bs_mono Y h4] at h1
          simp only [Option.some.injEq] at h1
          rw [h1]; exact h2
    · simp at hone
/-! words: digits, shifts; the half -/
theorem orW {x y : Int} {k : Nat} (hk : k ≤ 64) (hx : 0 ≤ x) (hx' : x < 2 ^ k) (hy : isW y) (hd : (2 ^ k : Int) ∣ y) : ibinF .or .u64 x y = x + y := by
  obtain ⟨a, rfl⟩ : ∃ a : Nat, x = a := ⟨x.toNat, by omega⟩
  obtain ⟨z, rfl⟩ := hd
  have hz : 0 ≤ z := by
    have h1 := hy.1
    rcases Int.lt_or_le z 0 with h | h
    · have : (2 ^ k : Int) * z < 0 := Int.mul_neg_of_pos_of_neg (Int.pow_pos (by decide)) h
      omega
    · exact h
  obtain ⟨b, rfl⟩ : ∃ b : Nat, z = b := ⟨z.toNat, by omega⟩
  have e : (2 ^ k : Int) * (b : Int) = ((2 ^ k * b : Nat) : Int) := by simp
  rw [e] at hy ⊢
  have ha : a < 2 ^ k := by
    have : ((2 ^ k : Nat) : Int) = (2 : Int) ^ k := by simp
    omega
  have hp : 2 ^ k ≤ 2 ^ 64 := Nat.pow_le_pow_right (by decide) hk
  have hlt : 2 ^ k * b < 2 ^ 64 := by have := hy.2; omega
  show (((BitVec.ofInt 64 (a : Int) ||| BitVec.ofInt 64 ((2 ^ k * b : Nat) : Int)).toNat : Int)) % 2 ^ 64 = _
  have h1 : (BitVec.ofInt 64 (a : Int) ||| BitVec.ofInt 64 ((2 ^ k * b : Nat) : Int)).toNat = a + 2 ^ k * b := by
    rw [BitVec.toNat_or, BitVec.toNat_ofInt, BitVec.toNat_ofInt]
    have e1 : ((a : Int) % ((2 ^ 64 : Nat) : Int)).toNat = a := by omega
    have e2 : (((2 ^ k * b : Nat) : Int) % ((2 ^ 64 : Nat) : Int)).toNat = 2 ^ k * b := by omega
    rw [e1, e2, Nat.or_comm, ← Nat.two_pow_add_eq_or_of_lt ha, Nat.add_comm]
  rw [h1]
  have hs : a + 2 ^ k * b < 2 ^ 64 := by
    -- both below, with the same step
    have hdvd : 2 ^ k ∣ 2 ^ 64 := Nat.pow_dvd_pow 2 hk
    obtain ⟨c, hc⟩ := hdvd
    have hb : b < c := by
      rw [hc] at hlt
      exact Nat.lt_of_mul_lt_mul_left hlt
    have : 2 ^ k * (b + 1) ≤ 2 ^ k * c := Nat.mul_le_mul_left _ hb
    rw [Nat.mul_add, Nat.mul_one, ← hc] at this
    omega
  omega
theorem shrW {a : Int} (ha : isW a) (k : Nat) (hk : k ≤ 64) : ibinF .shr .u64 a (k : Int) = a / 2 ^ k := by
  show a.fdiv (2 ^ (min (k : Int).toNat 64)) = _
  rw [Int.toNat_natCast, Nat.min_eq_left hk, Int.fdiv_eq_ediv_of_nonneg _ (Int.le_of_lt (Int.pow_pos (by decide)))]
theorem shlW (a : Int) (k : Nat) (hk : k ≤ 64) : ibinF .shl .u64 a (k : Int) = a * 2 ^ k % 2 ^ 64 := by
  show IntKind.wrap .u64 (a * 2 ^ (min (k : Int).toNat 64)) = _
  rw [Int.toNat_natCast, Nat.min_eq_left hk]
  rfl
theorem and1 {a : Int} (ha : isW a) : ibinF .and .u64 a 1 = a % 2 := by
  show (((BitVec.ofInt 64 a &&& BitVec.ofInt 64 1).toNat : Int)) % 2 ^ 64 = _
  have h1 : BitVec.ofInt 64 1 = BitVec.ofNat 64 (2 ^ 1 - 1) := by rfl
  have h2 : (BitVec.ofInt 64 a &&& BitVec.ofInt 64 1).toNat = a.toNat % 2 ^ 1 := by
    rw [h1, BitVec.toNat_and, BitVec.toNat_ofInt, BitVec.toNat_ofNat, Nat.mod_eq_of_lt (show 2 ^ 1 - 1 < 2 ^ 64 by decide), Nat.and_two_pow_sub_one_eq_mod]
    congr 1
    unfold isW at ha
    simp only [Int.reducePow, Nat.reducePow, Int.cast_ofNat_Int] at *
    omega
  rw [h2]
  unfold isW at ha
  simp only [Int.reducePow, Nat.reducePow] at *
  omega
/-- two words, shifted aas one -/
theorem sh2 {a b : Int} (ha : isW a) (hb : isW b) (k : Nat) (hk : k ≤ 64) {r s t : Int} (hr : r = ibinF .shr .u64 a (k : Int)) (hs : s = ibinF .shl .u64 b ((64 - k : Nat) : Int)) (ht : t = ibinF .or .u64 r s) :
    t = a / 2 ^ k + b * 2 ^ (64 - k) % 2 ^ 64 ∧ isW t := by
  rw [shrW ha k hk] at hr
  rw [shlW b (64 - k) (by omega)] at hs
  have hp : (0 : Int) < 2 ^ k := Int.pow_pos (by decide)
  have hq : (2 : Int) ^ 64 = 2 ^ (64 - k) * 2 ^ k := by rw [← Int.pow_add, show 64 - k + k = 64 by omega]
  have hlt : a / 2 ^ k < 2 ^ (64 - k) := by
    refine Int.ediv_lt_of_lt_mul hp ?_
    rw [← hq]; exact ha.2
  have hdv : (2 ^ (64 - k) : Int) ∣ b * 2 ^ (64 - k) % 2 ^ 64 := by
    rw [hq]
    rw [Int.mul_comm b, Int.mul_emod_mul_of_pos _ _ (Int.pow_pos (by decide))]
    exact Int.dvd_mul_right _ _
  have h1 := orW (x := a / 2 ^ k) (y := b * 2 ^ (64 - k) % 2 ^ 64) (k := 64 - k) (by omega) (Int.ediv_nonneg ha.1 (Int.le_of_lt hp)) hlt (mod_word _) hdv
  subst hr; subst hs
  rw [h1] at ht
  refine ⟨ht, ?_⟩
  rw [ht, ← h1]
  exact wrap_u64 _
def HalveT (mk : List SC → Mem) : PT :=
  .row (.ibin 4 .and .u64 (.var 0) (.lit 1))
  (.test (.cmp .eql (.var 4) (.lit 1) true)
   (.row (.pf 5 2 1 [(.var 0), (.lit 4332616871279656263), (.lit 0)])
   (.row (.pf 7 2 1 [(.var 1), (.lit 10917124144477883021), (.var 6)])
   (.row (.pf 9 2 1 [(.var 2), (.lit 13281191951274694749), (.var 8)])
   (.row (.pf 11 2 1 [(.var 3), (.lit 3486998266802970665), (.var 10)])
   (.row (.ibin 13 .shr .u64 (.var 5) (.lit 1))
   (.row (.ibin 14 .shl .u64 (.var 7) (.lit 63))
   (.row (.ibin 15 .or .u64 (.var 13) (.var 14))
   (.row (.ibin 16 .shr .u64 (.var 7) (.lit 1))
   (.row (.ibin 17 .shl .u64 (.var 9) (.lit 63))
   (.row (.ibin 18 .or .u64 (.var 16) (.var 17))
   (.row (.ibin 19 .shr .u64 (.var 9) (.lit 1))
   (.row (.ibin 20 .shl .u64 (.var 11) (.lit 63))
   (.row (.ibin 21 .or .u64 (.var 19) (.var 20))
   (.row (.ibin 22 .shr .u64 (.var 11) (.lit 1))
   (.done (mk [.iv .u64 15, .iv .u64 18, .iv .u64 21, .iv .u64 22]) 0 23 (.tup []))))))))))))))))
   (.row (.ibin 5 .shr .u64 (.var 0) (.lit 1))
   (.row (.ibin 6 .shl .u64 (.var 1) (.lit 63))
   (.row (.ibin 7 .or .u64 (.var 5) (.var 6))
   (.row (.ibin 8 .shr .u64 (.var 1) (.lit 1))
   (.row (.ibin 9 .shl .u64 (.var 2) (.lit 63))
   (.row (.ibin 10 .or .u64 (.var 8) (.var 9))
   (.row (.ibin 11 .shr .u64 (.var 2) (.lit 1))
   (.row (.ibin 12 .shl .u64 (.var 3) (.lit 63))
   (.row (.ibin 13 .or .u64 (.var 11) (.var 12))
   (.row (.ibin 14 .shr .u64 (.var 3) (.lit 1))
   (.done (mk [.iv .u64 7, .iv .u64 10, .iv .u64 13, .iv .u64 14]) 0 15 (.tup [])))))))))))))
theorem half_words {s0 s1 s2 s3 r0 r1 r2 r3 : Int} (h0 : isW s0) (h1 : isW s1) (h2 : isW s2) (h3 : isW s3) (e0 : r0 = s0 / 2 ^ 1 + s1 * 2 ^ (64 - 1) % 2 ^ 64) (e1 : r1 = s1 / 2 ^ 1 + s2 * 2 ^ (64 - 1) % 2 ^ 64)
    (e2 : r2 = s2 / 2 ^ 1 + s3 * 2 ^ (64 - 1) % 2 ^ 64) (e3 : r3 = s3 / 2 ^ 1) : r0 + 18446744073709551616 * r1 + 340282366920938463463374607431768211456 * r2 + 6277101735386680763835789423207666416102355444464034512896 * r3 =
      (s0 + 18446744073709551616 * s1 + 340282366920938463463374607431768211456 * s2 + 6277101735386680763835789423207666416102355444464034512896 * s3) / 2 := by
  unfold isW at *
  simp only [Int.reducePow, Int.reduceMul, Nat.reduceSub] at *
  omega
theorem fpHalf_two : fpHalf + fpHalf = 1 := by kernel_rfl
theorem mont_half {e : Fp} {R : Nat} (h : 2 * R = mont e ∨ 2 * R = mont e + pP) : mont (e * fpHalf) = R := by
  have hlt := mont_lt e
  have hR : R < pP := by omega
  have h1 : unmont R + unmont R = e := by
    refine mont_inj ?_
    rw [mont_add, mont_unmont hR]
    rcases h with h | h
    · rw [show R + R = mont e by omega, Nat.mod_eq_of_lt hlt]
    · rw [show R + R = mont e + pP by omega, Nat.add_mod_right, Nat.mod_eq_of_lt hlt]
  have h2 : e * fpHalf = unmont R := by
    rw [← h1]
    have h3 : (unmont R + unmont R) * fpHalf = unmont R * (fpHalf + fpHalf) := ring_id [unmont R, fpHalf] ((v 0 + v 0) * v 1) (v 0 * (v 1 + v 1)) (by kernel_rfl)
    rw [h3, fpHalf_two]
    exact ring_id [unmont R] (v 0 * 1) (v 0) (by kernel_rfl)
  rw [h2, mont_unmont hR]
theorem cl4_ok (e : Fp) : KsOK (V2 e e) 4 [1, 1, 1, 1] := ⟨wordN_isW (mont e) 3, wordN_isW (mont e) 2, wordN_isW (mont e) 1, wordN_isW (mont e) 0, trivial⟩
theorem half_cells {e : Fp} {s0 s1 s2 s3 r0 r1 r2 r3 : Int} (h0 : isW s0) (h1 : isW s1) (h2 : isW s2) (h3 : isW s3) (e0 : r0 = s0 / 2 ^ 1 + s1 * 2 ^ (64 - 1) % 2 ^ 64 ∧ isW r0) (e1 : r1 = s1 / 2 ^ 1 + s2 * 2 ^ (64 - 1) % 2 ^ 64 ∧ isW r1)
    (e2 : r2 = s2 / 2 ^ 1 + s3 * 2 ^ (64 - 1) % 2 ^ 64 ∧ isW r2) (e3 : r3 = s3 / 2 ^ 1 ∧ isW r3)
    (hs : (s0 + 18446744073709551616 * s1 + 340282366920938463463374607431768211456 * s2 + 6277101735386680763835789423207666416102355444464034512896 * s3 = mont e ∧ s0 % 2 = 0) ∨
      (s0 + 18446744073709551616 * s1 + 340282366920938463463374607431768211456 * s2 + 6277101735386680763835789423207666416102355444464034512896 * s3 = mont e + 21888242871839275222246405745257275088696311157297823662689037894645226208583 ∧ (mont e : Int) % 2 = 1)) :
    r0 = wordN (mont (e * fpHalf)) 0 ∧ r1 = wordN (mont (e * fpHalf)) 1 ∧ r2 = wordN (mont (e * fpHalf)) 2 ∧ r3 = wordN (mont (e * fpHalf)) 3 := by
  have hv := half_words h0 h1 h2 h3 e0.1 e1.1 e2.1 e3.1
  refine words_gen e0.2 e1.2 e2.2 e3.2 ?_
  rw [hv]
  unfold isW at h0 h1 h2 h3
  generalize hS : s0 + 18446744073709551616 * s1 + 340282366920938463463374607431768211456 * s2 + 6277101735386680763835789423207666416102355444464034512896 * s3 = S at *
  have hS0 : 0 ≤ S := by simp only [Int.reducePow] at *; omega
  obtain ⟨n, rfl⟩ : ∃ n : Nat, S = n := ⟨S.toNat, by omega⟩
  have hp := pP_eqI
  have : mont (e * fpHalf) = n / 2 := by
    refine mont_half ?_
    rcases hs with ⟨h, hz⟩ | ⟨h, hz⟩
    · left
      have : (n : Int) % 2 = 0 := by simp only [Int.reducePow] at *; omega
      omega
    · right
      omega
  rw [this]
  omega
theorem halve_leaf {P : Program} {call : CallF} (hcall : CallOK P FD call) {f : Nat} (hchk : (HalveT (fun cs => [(true, cs)])).chk (fun ds => call f [pS 0] ⟨[(true, cl 0)], 0, 4, [], ds⟩) [] []) : PrimOK P FD f (.g ⟨8, [(1, true)], [], false, 0⟩) := by
  intro w ps ess hread hpairs
  match ps, ess, hread with
  | [(b, o)], [es], ⟨hlen, hc, _⟩ =>
    match es, hlen, hc with
    | [e0], _, hc =>
      obtain ⟨e, he⟩ : ∃ e : Fp, e = e0 := ⟨e0, rfl⟩
      subst he
      have hval : efF 8 [e] = [e * fpHalf] := (efF_base (by decide) _).trans (if_pos rfl)
      have hval' : FD.ef 8 ([[e]] : List (List FD.E)).flatten = [e * fpHalf] := hval
      rw [hval']
      refine ⟨rfl, ?_⟩
      have hc' : HasC w b o (words4 (D := FD) e) := by simpa [wordsL] using hc
      have hrep : Rep (SetG [(b, o)] [(1, true)]) w (V2 e e) [(b, o)] ⟨[(true, cl 0)], 0, 4, [], []⟩ w := by
        have h1 := (rep1 (V := V2 e e) (c := cl 0) (v := words4 (D := FD) e) (cl0_is e e [(b, o)]) hc' rfl [])
        refine ⟨h1.keeps.mono (fun x i _ h => .inl ⟨rfl, h⟩), h1.len, h1.has, fun r cs b' o' i hm hB hi hx => .inl ⟨rfl, h1.wr r cs b' o' i hm hB hi hx⟩, h1.disj⟩
      obtain ⟨V', ha, hp⟩ := PT.run hcall _ hchk (ks := [1, 1, 1, 1]) (by kernel_rfl) rfl rfl (V2 e e) (cl4_ok e) hrep (us := [pt b o]) ⟨⟨b, o, rfl, rfl⟩, trivial⟩
      have hw : ∀ i, i < 4 → (nm 0 i).den V' = wordN (mont e) i := by
        intro i hi
        show V'.it (0 + i) = _
        rw [Nat.zero_add, ha.2 i hi]
        match i, hi with
        | 0, _ => rfl
        | 1, _ => rfl
        | 2, _ => rfl
        | 3, _ => rfl
      have hX := mont_val hw
      simp only [nm, IE.den_var, Nat.zero_add] at hX
      have i0 : V'.it 0 = wordN (mont e) 0 := by simpa [nm, IE.den_var] using hw 0 (by omega)
      have i1 : V'.it 1 = wordN (mont e) 1 := by simpa [nm, IE.den_var] using hw 1 (by omega)
      have i2 : V'.it 2 = wordN (mont e) 2 := by simpa [nm, IE.den_var] using hw 2 (by omega)
      have i3 : V'.it 3 = wordN (mont e) 3 := by simpa [nm, IE.den_var] using hw 3 (by omega)
      have w0 : isW (V'.it 0) := by rw [i0]; exact wordN_isW _ _
      have w1 : isW (V'.it 1) := by rw [i1]; exact wordN_isW _ _
      have w2 : isW (V'.it 2) := by rw [i2]; exact wordN_isW _ _
      have w3 : isW (V'.it 3) := by rw [i3]; exact wordN_isW _ _
      have fin : ∀ (c0 c1 c2 c3 : Nat), (V'.it c0 = wordN (mont (e * fpHalf)) 0 ∧ V'.it c1 = wordN (mont (e * fpHalf)) 1 ∧ V'.it c2 = wordN (mont (e * fpHalf)) 2 ∧ V'.it c3 = wordN (mont (e * fpHalf)) 3) →
          (Calls P f [pt b o].toArray w fun e w' => ∃ u X, e = .returned u ∧ Rep (SetG [(b, o)] [(1, true)]) w V' ([(b, o)] ++ X) ⟨[(true, [.iv .u64 c0, .iv .u64 c1, .iv .u64 c2, .iv .u64 c3])], 0, 0, [], []⟩ w' ∧ (SV.tup []).is V' ([(b, o)] ++ X) u) →
          Calls P f (([(b, o)] : List (Nat × Nat)).map fun p => pt p.1 p.2).toArray w fun en w' => en = .returned (retVG (D := FD) ⟨8, [(1, true)], [], false, 0⟩ [(b, o)] [e * fpHalf]) ∧ Keeps (SetG [(b, o)] [(1, true)]) w w' ∧ WritesG FD w' [(b, o)] [(1, true)] [e * fpHalf] := by
        intro c0 c1 c2 c3 hv hk
        refine hk.mono ?_
        rintro en w' ⟨u, X, rfl, hr, vs, hvs, rfl⟩
        match vs, hvs with
        | [], _ =>
          refine ⟨rfl, hr.keeps, ?_, trivial⟩
          obtain ⟨vs, h1, h2⟩ := hr.has 0 true _ b o rfl rfl
          have h3 := LIs_fun h1 (words_is (e := e * fpHalf) hv ([(b, o)] ++ X))
          subst h3
          exact h2
      obtain ⟨h4, hp⟩ := hp
      have c4 : V'.it 4 = ibinF .and .u64 (V'.it 0) 1 := h4
      rw [and1 w0] at c4
      rcases hp with ⟨ht, g5, g7, g9, g11, g13, g14, g15, g16, g17, g18, g19, g20, g21, g22, hk⟩ | ⟨ht, g5, g6, g7, g8, g9, g10, g11, g12, g13, g14, hk⟩
      · have ht := cmp_eq_t ht
        simp only [IE.den_var, IE.den_lit] at ht
        have a0 := pf1 g5
        have a1 := pf1 g7
        have a2 := pf1 g9
        have a3 := pf1 g11
        simp only [IE.den_lit, IE.den_var, Nat.reduceAdd, Nat.add_zero] at a0 a1 a2 a3
        have hs := addq_words a0.1 a1.1 a2.1 a3.1
        have s0 : isW (V'.it 5) := ⟨a0.2.1, a0.2.2.1⟩
        have s1 : isW (V'.it 7) := ⟨a1.2.1, a1.2.2.1⟩
        have s2 : isW (V'.it 9) := ⟨a2.2.1, a2.2.2.1⟩
        have s3 : isW (V'.it 11) := ⟨a3.2.1, a3.2.2.1⟩
        refine fin 15 18 21 22 (half_cells s0 s1 s2 s3 (sh2 s0 s1 1 (by omega) g13 g14 g15) (sh2 s1 s2 1 (by omega) g16 g17 g18) (sh2 s2 s3 1 (by omega) g19 g20 g21) ⟨?_, ?_⟩ (.inr ⟨?_, ?_⟩)) hk
        · have : V'.it 22 = ibinF .shr .u64 (V'.it 11) ((1 : Nat) : Int) := g22
          rw [this, shrW s3 1 (by omega)]
        · have : V'.it 22 = ibinF .shr .u64 (V'.it 11) ((1 : Nat) : Int) := g22
          rw [this, shrW s3 1 (by omega)]
          unfold isW at s3 ⊢
          simp only [Int.reducePow] at *
          omega
        · have hm := mont_ltI e
          have hc3 := a3.2.2.2
          rw [hX] at hs
          unfold isW at s0 s1 s2 s3
          simp only [Int.reducePow] at *
          omega
        · unfold isW at w0
          simp only [Int.reducePow] at *
          omega
      · have ht := cmp_eq_f ht
        simp only [IE.den_var, IE.den_lit] at ht
        refine fin 7 10 13 14 (half_cells w0 w1 w2 w3 (sh2 w0 w1 1 (by omega) g5 g6 g7) (sh2 w1 w2 1 (by omega) g8 g9 g10) (sh2 w2 w3 1 (by omega) g11 g12 g13) ⟨?_, ?_⟩ (.inl ⟨hX, ?_⟩)) hk
        · have : V'.it 14 = ibinF .shr .u64 (V'.it 3) ((1 : Nat) : Int) := g14
          rw [this, shrW w3 1 (by omega)]
        · have : V'.it 14 = ibinF .shr .u64 (V'.it 3) ((1 : Nat) : Int) := g14
          rw [this, shrW w3 1 (by omega)]
          unfold isW at w3 ⊢
          simp only [Int.reducePow] at *
          omega
        · omega
end Go.Proofs.YtnmkmbjbaagojaaGreatDoor
