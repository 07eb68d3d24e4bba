/- A part of the proof of laws.FnPairUneven. -/
import Derived.Deep.MidRow
import Derived.LoopN
import Derived.Tactics
import Derived.KernelRfl
import Derived.Below
import Derived.Orders
namespace Go.Proofs.YtnmkmbjbaagojaaGreatDoor
open Go
set_option maxRecDepth 100000
set_option linter.unusedVariables false
set_option linter.unusedSimpArgs false
/-- what becomes of a block: cells outside s stay -/
def ObjKeeps (s : Nat → Prop) : Option Obj → Option Obj → Prop
  | some (.cells c t f), o' => ∃ c', o' = some (.cells c' t f) ∧ c'.size = c.size ∧ ∀ i, ¬ s i → c'[i]? = c[i]?
  | o, o' => o' = o
/-- w' is w, but for the cells in S, and for new blocks -/
structure Keeps (S : Nat → Nat → Prop) (w w' : World) : Prop where
  os : w'.os = w.os
  tape : w'.tape = w.tape
  output : w'.output = w.output
  size : w.heap.size ≤ w'.heap.size
  block : ∀ b, b < w.heap.size → ObjKeeps (S b) w.heap[b]? w'.heap[b]?
theorem ObjKeeps.refl (s : Nat → Prop) (o : Option Obj) : ObjKeeps s o o := by
  match o with
  | none => rfl
  | some (.cells c t f) => exact ⟨c, rfl, rfl, fun _ _ => rfl⟩
  | some (.pending ..) | some (.view ..) | some (.number ..) | some (.map ..) | some (.chan ..) | some (.stringIter ..) | some (.mapIter ..) | some (.loop ..) | some (.deferred ..) | some (.coro ..) | some (.finalizers ..) => rfl
theorem ObjKeeps.trans {s : Nat → Prop} {a b c : Option Obj} (h : ObjKeeps s a b) (k : ObjKeeps s b c) : ObjKeeps s a c := by
  match a, h with
  | none, h => cases h; exact k
  | some (.cells ca t f), h =>
    obtain ⟨cb, rfl, hs, hi⟩ := h
    obtain ⟨cc, rfl, ks, ki⟩ := k
    exact ⟨cc, rfl, ks.trans hs, fun i hn => (ki i hn).trans (hi i hn)⟩
  | some (.pending ..), h | some (.view ..), h | some (.number ..), h | some (.map ..), h | some (.chan ..), h | some (.stringIter ..), h | some (.mapIter ..), h | some (.loop ..), h | some (.deferred ..), h | some (.coro ..), h | some (.finalizers ..), h => cases h; exact k
theorem ObjKeeps.mono {s s' : Nat → Prop} {a b : Option Obj} (hs : ∀ i, s i → s' i) (h : ObjKeeps s a b) : ObjKeeps s' a b := by
  match a, h with
  | none, h => exact h
  | some (.cells ca t f), h =>
    obtain ⟨cb, rfl, hz, hi⟩ := h
    exact ⟨cb, rfl, hz, fun i hn => hi i (fun h => hn (hs i h))⟩
  | some (.pending ..), h | some (.view ..), h | some (.number ..), h | some (.map ..), h | some (.chan ..), h | some (.stringIter ..), h | some (.mapIter ..), h | some (.loop ..), h | some (.deferred ..), h | some (.coro ..), h | some (.finalizers ..), h => exact h
theorem ObjKeeps.none_eq {a b : Option Obj} (h : ObjKeeps (fun _ => False) a b) : b = a := by
  match a, h with
  | none, h => exact h
  | some (.cells ca t f), h =>
    obtain ⟨cb, rfl, hz, hi⟩ := h
    have : cb = ca := Array.ext_getElem? (fun i => hi i (fun h => h))
    rw [this]
  | some (.pending ..), h | some (.view ..), h | some (.number ..), h | some (.map ..), h | some (.chan ..), h | some (.stringIter ..), h | some (.mapIter ..), h | some (.loop ..), h | some (.deferred ..), h | some (.coro ..), h | some (.finalizers ..), h => exact h
theorem Keeps.refl (S : Nat → Nat → Prop) (w : World) : Keeps S w w := ⟨rfl, rfl, rfl, Nat.le_refl _, fun _ _ => .refl _ _⟩
theorem Keeps.trans {S : Nat → Nat → Prop} {a b c : World} (h : Keeps S a b) (k : Keeps S b c) : Keeps S a c :=
  ⟨k.os.trans h.os, k.tape.trans h.tape, k.output.trans h.output, Nat.le_trans h.size k.size, fun i hi => (h.block i hi).trans (k.block i (Nat.lt_of_lt_of_le hi h.size))⟩
theorem Keeps.mono {S S' : Nat → Nat → Prop} {a b : World} (h : Keeps S a b) (hs : ∀ x i, x < a.heap.size → S x i → S' x i) : Keeps S' a b :=
  ⟨h.os, h.tape, h.output, h.size, fun i hi => (h.block i hi).mono (fun j => hs i j hi)⟩
/-- two steps, the second of which may turn what the first made -/
theorem Keeps.trans' {S S' : Nat → Nat → Prop} {a b c : World} (h : Keeps S a b) (k : Keeps S' b c) (hs : ∀ x i, x < a.heap.size → S' x i → S x i) : Keeps S a c :=
  ⟨k.os.trans h.os, k.tape.trans h.tape, k.output.trans h.output, Nat.le_trans h.size k.size, fun i hi => (h.block i hi).trans ((k.block i (Nat.lt_of_lt_of_le hi h.size)).mono (fun j => hs i j hi))⟩
theorem Keeps.drawn {S : Nat → Nat → Prop} {a b : World} (h : Keeps S a b) (n : Nat) : Keeps S a { b with drawn := n } := ⟨h.os, h.tape, h.output, h.size, h.block⟩
theorem Keeps.alloc (S : Nat → Nat → Prop) (w : World) (o : Obj) : Keeps S w { w with heap := w.heap.push o } :=
  ⟨rfl, rfl, rfl, by simp, fun b hb => by
    show ObjKeeps _ _ (w.heap.push o)[b]?
    rw [Array.getElem?_push, if_neg (by omega)]; exact .refl _ _⟩
theorem Keeps.setCell {S : Nat → Nat → Prop} (w : World) (b o : Nat) (v : Value) (h : S b o) : Keeps S w (w.setCell ⟨b, o, none⟩ v) :=
  ⟨rfl, rfl, rfl, by simp [World.setCell], fun x hx => by
    simp only [World.setCell, Array.getElem?_modify]
    split
    · rename_i e; subst e
      cases hq : w.heap[b]? with
      | none => rfl
      | some q =>
        cases q <;> simp only [Option.map_some] <;> try exact ObjKeeps.refl _ _
        rename_i c t f
        refine ⟨_, rfl, by simp, fun i hi => ?_⟩
        simp only [Option.isSome_none, Bool.false_eq_true, if_false]
        rw [Array.getElem?_setIfInBounds_ne (by rintro rfl; exact hi h)]
    · exact .refl _ _⟩
theorem Keeps.setCells {S : Nat → Nat → Prop} (b : Nat) : ∀ (vs : List Value) (o : Nat) (w : World), (∀ i, i < vs.length → S b (o + i)) → Keeps S w (w.setCells b o vs)
  | [], _, w, _ => Keeps.refl _ w
  | v :: r, o, w, h => by
    rw [World.setCells]
    refine (Keeps.setCell w b o v (h 0 (by simp))).trans (Keeps.setCells b r (o + 1) _ (fun i hi => ?_))
    have := h (i + 1) (by simp; omega)
    rwa [show o + 1 + i = o + (i + 1) by omega]
/-- a block of cells, none of which is frozen -/
def Plain (w : World) (b : Nat) : Prop := ∃ c t, w.heap[b]? = some (.cells c t (0, 0))
theorem Plain.frozen {w : World} {b : Nat} (h : Plain w b) (o : Nat) : w.frozen? ⟨b, o, none⟩ = false := by
  obtain ⟨c, t, h⟩ := h
  simp [World.frozen?, h]
theorem Keeps.plain {S : Nat → Nat → Prop} {w w' : World} (h : Keeps S w w') {b : Nat} (hp : Plain w b) : Plain w' b := by
  obtain ⟨c, t, hc⟩ := hp
  have hb : b < w.heap.size := by
    rcases Nat.lt_or_ge b w.heap.size with h | h
    · exact h
    · simp [Array.getElem?_eq_none h] at hc
  have hk := h.block b hb
  rw [hc] at hk
  obtain ⟨c', e, _, _⟩ := hk
  exact ⟨c', t, e⟩
/-- the cells vs lie at (b, o), to be read and written -/
def HasC (w : World) (b o : Nat) (vs : List Value) : Prop :=
  ∀ i v, vs[i]? = some v → w.cell? ⟨b, o + i, none⟩ = some v ∧ Plain w b
theorem HasC.lt {w : World} {b o : Nat} {vs : List Value} (h : HasC w b o vs) (hv : 0 < vs.length) : b < w.heap.size := by
  have h0 := (h 0 vs[0] (by simp [hv])).1
  unfold World.cell? at h0
  rcases Nat.lt_or_ge b w.heap.size with h | h
  · exact h
  · simp [Array.getElem?_eq_none h] at h0
theorem HasC.drawn {w : World} {b o : Nat} {vs : List Value} (h : HasC w b o vs) (n : Nat) : HasC { w with drawn := n } b o vs := h
theorem Keeps.hasC {S : Nat → Nat → Prop} {w w' : World} (h : Keeps S w w') {b o : Nat} {vs : List Value} (hv : HasC w b o vs) (hs : ∀ i, i < vs.length → ¬ S b (o + i)) : HasC w' b o vs := by
  intro i v hi
  have hlt : i < vs.length := (List.getElem?_eq_some_iff.mp hi).1
  have hb := hv.lt (by omega)
  obtain ⟨h1, h2⟩ := hv i v hi
  have hk := h.block b hb
  refine ⟨?_, h.plain h2⟩
  unfold World.cell? at *
  simp only at *
  cases hq : w.heap[b]? with
  | none => simp [hq] at h1
  | some q =>
    rw [hq] at h1 hk
    cases q <;> simp at h1
    rename_i c t f
    obtain ⟨c', e, hz, hi'⟩ := hk
    rw [e]
    simp only
    simp only [Option.isSome_none, Bool.false_eq_true, if_false]
    rw [hi' _ (hs i hlt)]; exact h1
theorem hasC_setCells (b : Nat) : ∀ (vs us : List Value) (o : Nat) (w : World), HasC w b o us → vs.length = us.length → HasC (w.setCells b o vs) b o vs := by
  intro vs us o w hu hl i v hi
  have hlt : i < vs.length := (List.getElem?_eq_some_iff.mp hi).1
  have hk : Keeps (fun x j => x = b ∧ o ≤ j ∧ j < o + vs.length) w (w.setCells b o vs) := Keeps.setCells b vs o w (fun i hi => ⟨rfl, by omega, by omega⟩)
  have hb := hu.lt (by omega)
  obtain ⟨_, h2⟩ := hu i us[i] (by simp)
  constructor
  · have key : ∀ (vs : List Value) (o : Nat) (w : World), (∀ j, j < vs.length → (w.cell? ⟨b, o + j, none⟩).isSome = true) → ∀ i v, vs[i]? = some v → (w.setCells b o vs).cell? ⟨b, o + i, none⟩ = some v := by
      intro vs
      induction vs with
      | nil => intro o w _ i v h; simp at h
      | cons u r ih =>
        intro o w hw i v h
        rw [World.setCells]
        cases i with
        | zero =>
          rw [World.cell?_setCells_out b r (o + 1) _ _ (fun _ _ => by simp)]
          have h0 := hw 0 (by simp)
          simp at h; subst h
          obtain ⟨z, hz⟩ := Option.isSome_iff_exists.mp h0
          exact World.cell?_setCell_same _ _ _ hz
        | succ i =>
          have := ih (o + 1) (w.setCell ⟨b, o, none⟩ u) (fun j hj => by
            rw [World.cell?_setCell_other _ _ _ _ (by intro e; injection e; omega)]
            have := hw (j + 1) (by simp; omega)
            rwa [show o + 1 + j = o + (j + 1) by omega]) i v (by simpa using h)
          rwa [show o + (i + 1) = o + 1 + i by omega]
    exact key vs o w (fun j hj => by
      have := (hu j us[j] (by simp)).1
      rw [this]; rfl) i v hi
  · exact hk.plain h2
/-! A reckoner of the model's code over symbols: what a run does to cells, with field elements and numbers as names. -/
/-- a field element: a name, or its four words -/
inductive FE where
  | var (i : Nat)
  | lit (a b c d : Nat)
  deriving DecidableEq
/-- a cell: a constant, a number by name, a word of an element, the address of a region's cell, a slice of a region, an interface that holds such an address, the variable g of a package (in the region q) that holds one -/
inductive SC where
  | lit (v : Value)
  | iv (k : IntKind) (i : Nat)
  | wd (e : FE) (i : Nat)
  | ptr (r off : Nat)
  | slc (r off len cap : Nat)
  | ifp (t r off : Nat)
  | gc (q g t r off : Nat)
inductive SA where
  | c (x : SC)
  | agg (l : List SC)
inductive SV where
  | a (x : SA)
  | tup (l : List SA)
/-- a number: a constant or a name -/
inductive IE where
  | lit (n : Int)
  | var (i : Nat)
/-- the kind of elements, and what the functions of the leaves do -/
structure Dom where
  E : Type
  word : E → Nat → Int
  lit : Nat → Nat → Nat → Nat → E
  litOk : Nat → Nat → Nat → Nat → Bool
  lit0 : ∀ a b c d, litOk a b c d = true → word (lit a b c d) 0 = a
  lit1 : ∀ a b c d, litOk a b c d = true → word (lit a b c d) 1 = b
  lit2 : ∀ a b c d, litOk a b c d = true → word (lit a b c d) 2 = c
  lit3 : ∀ a b c d, litOk a b c d = true → word (lit a b c d) 3 = d
  bin : Nat → E → E → E
  un : Nat → E → E
  t1 : Nat → E → Bool
  t2 : Nat → E → E → Bool
  pf : Nat → List Int → List Int
  pfn : Nat → List Int → Prop
  tm : Nat → List Int → Bool
  tmn : Nat → List Int → Prop
  ef : Nat → List E → List E
/-- what the names stand for -/
structure VE (D : Dom) where
  el : Nat → D.E
  it : Nat → Int
/-- a row of the record: what a name is, or which way a test went -/
inductive TOp where
  | ebin (i : Nat) (k : Nat) (x y : FE)
  | eun (i : Nat) (k : Nat) (x : FE)
  | t1 (k : Nat) (x : FE) (d : Bool)
  | t2 (k : Nat) (x y : FE) (d : Bool)
  | pf (i : Nat) (n : Nat) (k : Nat) (xs : List IE)
  | ibin (i : Nat) (op : BinOp) (k : IntKind) (x y : IE)
  | cmp (op : BinOp) (x y : IE) (d : Bool)
  | tm (k : Nat) (xs : List IE) (d : Bool)
  | ef (i : Nat) (n : Nat) (k : Nat) (xs : List FE)
section
variable {D : Dom}
def FE.den (V : VE D) : FE → D.E
  | .var i => V.el i
  | .lit a b c d => D.lit a b c d
def IE.den (V : VE D) : IE → Int
  | .lit n => n
  | .var i => V.it i
/-- a sum, a difference, a product, bits, of a kind -/
def ibinF (op : BinOp) (k : IntKind) (x y : Int) : Int :=
  match op with
  | .add => k.wrap (x + y)
  | .sub => k.wrap (x - y)
  | .mul => k.wrap (x * y)
  | .and => k.wrap (BitVec.ofInt k.bits x &&& BitVec.ofInt k.bits y).toNat
  | .or => k.wrap (BitVec.ofInt k.bits x ||| BitVec.ofInt k.bits y).toNat
  | .xor => k.wrap (BitVec.ofInt k.bits x ^^^ BitVec.ofInt k.bits y).toNat
  | .shl => k.wrap (x * 2 ^ (min y.toNat k.bits))
  | .shr => x.fdiv (2 ^ (min y.toNat k.bits))
  | .andNot => k.wrap (BitVec.ofInt k.bits x &&& ~~~BitVec.ofInt k.bits y).toNat
  | .quo => k.wrap (x.tdiv y)
  | .rem => x.tmod y
  | _ => 0
def cmpF (op : BinOp) (x y : Int) : Bool :=
  match op with
  | .eql => x == y
  | .neq => x != y
  | .lss => x < y
  | .leq => x ≤ y
  | .gtr => x > y
  | .geq => x ≥ y
  | _ => false
def TOp.holds (V : VE D) : TOp → Prop
  | .ebin i k x y => V.el i = D.bin k (x.den V) (y.den V)
  | .eun i k x => V.el i = D.un k (x.den V)
  | .t1 k x d => D.t1 k (x.den V) = d
  | .t2 k x y d => D.t2 k (x.den V) (y.den V) = d
  | .pf i n k xs => D.pfn k (xs.map (·.den V)) ∧ (List.range n).map (fun j => V.it (i + j)) = D.pf k (xs.map (·.den V))
  | .ibin i op k x y => V.it i = ibinF op k (x.den V) (y.den V)
  | .cmp op x y d => cmpF op (x.den V) (y.den V) = d
  | .tm k xs d => D.tmn k (xs.map (·.den V)) ∧ D.tm k (xs.map (·.den V)) = d
  | .ef i n k xs => (List.range n).map (fun j => V.el (i + j)) = D.ef k (xs.map (·.den V))
abbrev Bs := List (Nat × Nat)
def SC.is (V : VE D) (B : Bs) : SC → Value → Prop
  | .lit v, u => u = v
  | .iv k i, u => u = .int k (V.it i)
  | .wd e i, u => u = .int .u64 (D.word (e.den V) i)
  | .ptr r off, u => ∃ b o, B[r]? = some (b, o) ∧ u = .pointer (some ⟨b, o + off, none⟩)
  | .slc r off len cap, u => ∃ b o, B[r]? = some (b, o) ∧ u = .slice (some ⟨b, o + off, none⟩) len cap
  | .ifp t r off, u => ∃ b o, B[r]? = some (b, o) ∧ u = .iface t (.pointer (some ⟨b, o + off, none⟩))
  | .gc q g t r off, u => B[q]? = some (g, 0) ∧ ∃ b o, B[r]? = some (b, o) ∧ u = .iface t (.pointer (some ⟨b, o + off, none⟩))
def LIs (V : VE D) (B : Bs) : List SC → List Value → Prop
  | [], [] => True
  | x :: l, u :: m => x.is V B u ∧ LIs V B l m
  | _, _ => False
def SA.is (V : VE D) (B : Bs) : SA → Value → Prop
  | .c x, u => x.is V B u
  | .agg l, u => ∃ vs, LIs V B l vs ∧ u = .agg vs.toArray
def ALIs (V : VE D) (B : Bs) : List SA → List Value → Prop
  | [], [] => True
  | x :: l, u :: m => x.is V B u ∧ ALIs V B l m
  | _, _ => False
def SV.is (V : VE D) (B : Bs) : SV → Value → Prop
  | .a x, u => x.is V B u
  | .tup l, u => ∃ vs, ALIs V B l vs ∧ u = .tuple vs.toArray
theorem bs_mono {B : Bs} (T : Bs) {r : Nat} {p : Nat × Nat} (hb : B[r]? = some p) : (B ++ T)[r]? = some p := by
  rw [List.getElem?_append_left (List.getElem?_eq_some_iff.mp hb).1]; exact hb
theorem SC.mono {V : VE D} {B : Bs} (T : Bs) {x : SC} {u : Value} (h : x.is V B u) : x.is V (B ++ T) u := by
  cases x with
  | ptr r off =>
    obtain ⟨b, o, hb, hu⟩ := h
    exact ⟨b, o, bs_mono T hb, hu⟩
  | slc r off =>
    obtain ⟨b, o, hb, hu⟩ := h
    exact ⟨b, o, bs_mono T hb, hu⟩
  | ifp t r off =>
    obtain ⟨b, o, hb, hu⟩ := h
    exact ⟨b, o, bs_mono T hb, hu⟩
  | gc q g t r off =>
    obtain ⟨h0, b, o, hb, hu⟩ := h
    exact ⟨bs_mono T h0, b, o, bs_mono T hb, hu⟩
  | _ => exact h
theorem LIs.mono {V : VE D} {B : Bs} (T : Bs) : ∀ {l : List SC} {m : List Value}, LIs V B l m → LIs V (B ++ T) l m
  | [], [], h => h
  | _ :: _, _ :: _, h => ⟨SC.mono T h.1, LIs.mono T h.2⟩
  | [], _ :: _, h => h.elim
  | _ :: _, [], h => h.elim
theorem SA.mono {V : VE D} {B : Bs} (T : Bs) {x : SA} {u : Value} (h : x.is V B u) : x.is V (B ++ T) u := by
  cases x with
  | c x => exact SC.mono T h
  | agg l => obtain ⟨vs, hl, hu⟩ := h; exact ⟨vs, hl.mono T, hu⟩
theorem ALIs.mono {V : VE D} {B : Bs} (T : Bs) : ∀ {l : List SA} {m : List Value}, ALIs V B l m → ALIs V (B ++ T) l m
  | [], [], h => h
  | _ :: _, _ :: _, h => ⟨SA.mono T h.1, ALIs.mono T h.2⟩
  | [], _ :: _, h => h.elim
  | _ :: _, [], h => h.elim
theorem SV.mono {V : VE D} {B : Bs} (T : Bs) {x : SV} {u : Value} (h : x.is V B u) : x.is V (B ++ T) u := by
  cases x with
  | a x => exact SA.mono T h
  | tup l => obtain ⟨vs, hl, hu⟩ := h; exact ⟨vs, hl.mono T, hu⟩
theorem LIs.length {V : VE D} {B : Bs} : ∀ {l : List SC} {m : List Value}, LIs V B l m → m.length = l.length
  | [], [], _ => rfl
  | _ :: _, _ :: _, h => by simp [LIs.length h.2]
  | [], _ :: _, h => h.elim
  | _ :: _, [], h => h.elim
theorem ALIs.length {V : VE D} {B : Bs} : ∀ {l : List SA} {m : List Value}, ALIs V B l m → m.length = l.length
  | [], [], _ => rfl
  | _ :: _, _ :: _, h => by simp [ALIs.length h.2]
  | [], _ :: _, h => h.elim
  | _ :: _, [], h => h.elim
theorem LIs.get {V : VE D} {B : Bs} : ∀ {l : List SC} {m : List Value}, LIs V B l m → ∀ {i : Nat} {x : SC}, l[i]? = some x → ∃ u, m[i]? = some u ∧ x.is V B u
  | [], [], _, i, x, h => by simp at h
  | y :: l, u :: m, h, 0, x, hx => by simp at hx; subst hx; exact ⟨u, rfl, h.1⟩
  | y :: l, u :: m, h, i + 1, x, hx => by simpa using LIs.get h.2 (i := i) (x := x) (by simpa using hx)
  | [], _ :: _, h, _, _, _ => h.elim
  | _ :: _, [], h, _, _, _ => h.elim
theorem ALIs.get {V : VE D} {B : Bs} : ∀ {l : List SA} {m : List Value}, ALIs V B l m → ∀ {i : Nat} {x : SA}, l[i]? = some x → ∃ u, m[i]? = some u ∧ x.is V B u
  | [], [], _, i, x, h => by simp at h
  | y :: l, u :: m, h, 0, x, hx => by simp at hx; subst hx; exact ⟨u, rfl, h.1⟩
  | y :: l, u :: m, h, i + 1, x, hx => by simpa using ALIs.get h.2 (i := i) (x := x) (by simpa using hx)
  | [], _ :: _, h, _, _, _ => h.elim
  | _ :: _, [], h, _, _, _ => h.elim
theorem LIs.append {V : VE D} {B : Bs} : ∀ {l : List SC} {m : List Value} {l' : List SC} {m' : List Value}, LIs V B l m → LIs V B l' m' → LIs V B (l ++ l') (m ++ m')
  | [], [], _, _, _, h' => h'
  | _ :: _, _ :: _, _, _, h, h' => ⟨h.1, LIs.append h.2 h'⟩
  | [], _ :: _, _, _, h, _ => h.elim
  | _ :: _, [], _, _, h, _ => h.elim
theorem LIs.take {V : VE D} {B : Bs} : ∀ (n : Nat) {l : List SC} {m : List Value}, LIs V B l m → LIs V B (l.take n) (m.take n)
  | 0, _, _, _ => by simp [LIs]
  | n + 1, [], [], h => by simp [LIs]
  | n + 1, _ :: _, _ :: _, h => ⟨h.1, LIs.take n h.2⟩
  | n + 1, [], _ :: _, h => h.elim
  | n + 1, _ :: _, [], h => h.elim
theorem LIs.drop {V : VE D} {B : Bs} : ∀ (n : Nat) {l : List SC} {m : List Value}, LIs V B l m → LIs V B (l.drop n) (m.drop n)
  | 0, _, _, h => h
  | n + 1, [], [], h => by simp [LIs]
  | n + 1, _ :: _, _ :: _, h => by simpa using LIs.drop n h.2
  | n + 1, [], _ :: _, h => h.elim
  | n + 1, _ :: _, [], h => h.elim
theorem LIs.lits (V : VE D) (B : Bs) : ∀ vs : List Value, LIs V B (vs.map SC.lit) vs
  | [] => trivial
  | _ :: r => ⟨rfl, LIs.lits V B r⟩
/-! the state -/
structure SS where
  mem : List (Bool × List SC)
  ne : Nat
  ni : Nat
  tr : List TOp
  dec : List Bool
/-- the state told of a world: begun at w0, S the old cells that may be turned -/
structure Rep (S : Nat → Nat → Prop) (w0 : World) (V : VE D) (B : Bs) (st : SS) (w : World) : Prop where
  keeps : Keeps S w0 w
  len : B.length = st.mem.length
  has : ∀ (r : Nat) (m : Bool) (cs : List SC) (b o : Nat), st.mem[r]? = some (m, cs) → B[r]? = some (b, o) → ∃ vs, LIs V B cs vs ∧ HasC w b o vs
  wr : ∀ (r : Nat) (cs : List SC) (b o i : Nat), st.mem[r]? = some (true, cs) → B[r]? = some (b, o) → i < cs.length → b < w0.heap.size → S b (o + i)
  disj : ∀ (r r' : Nat) (m : Bool) (cs : List SC) (m' : Bool) (cs' : List SC) (b o b' o' i j : Nat), r ≠ r' → st.mem[r]? = some (m, cs) → st.mem[r']? = some (m', cs') → B[r]? = some (b, o) → B[r']? = some (b', o') →
    i < cs.length → j < cs'.length → ¬ (b = b' ∧ o + i = o' + j)
theorem Rep.drawn {S : Nat → Nat → Prop} {w0 : World} {V : VE D} {B : Bs} {st : SS} {w : World} (h : Rep S w0 V B st w) (n : Nat) : Rep S w0 V B st { w with drawn := n } :=
  ⟨h.keeps.drawn n, h.len, h.has, h.wr, h.disj⟩
/-- the record and the tests do not matter for the memory -/
theorem Rep.other {S : Nat → Nat → Prop} {w0 : World} {V : VE D} {B : Bs} {st st' : SS} {w : World} (h : Rep S w0 V B st w) (e : st'.mem = st.mem) : Rep S w0 V B st' w :=
  ⟨h.keeps, by rw [e]; exact h.len, by rw [e]; exact h.has, by rw [e]; exact h.wr, by rw [e]; exact h.disj⟩
def getM (mem : List (Bool × List SC)) (r off n : Nat) : Option (List SC) :=
  match mem[r]? with
  | some (_, l) => if off + n ≤ l.length then some ((l.drop off).take n) else none
  | none => none
def putM (mem : List (Bool × List SC)) (r off : Nat) (cs : List SC) : Option (List (Bool × List SC)) :=
  match mem[r]? with
  | some (true, l) => if off + cs.length ≤ l.length then some (mem.set r (true, l.take off ++ cs ++ l.drop (off + cs.length))) else none
  | _ => none
theorem HasC.part {w : World} {b o : Nat} {vs : List Value} (h : HasC w b o vs) (off n : Nat) : HasC w b (o + off) ((vs.drop off).take n) := by
  intro i v hi
  rw [List.getElem?_take] at hi
  split at hi
  · rw [List.getElem?_drop] at hi
    rw [Nat.add_assoc]
    exact h _ v hi
  · simp at hi
theorem Rep.get {S : Nat → Nat → Prop} {w0 : World} {V : VE D} {B : Bs} {st : SS} {w : World} (h : Rep S w0 V B st w) {r off n : Nat} {cs : List SC} (hg : getM st.mem r off n = some cs) :
    ∃ b o vs, B[r]? = some (b, o) ∧ LIs V B cs vs ∧ HasC w b (o + off) vs ∧ cs.length = n := by
  unfold getM at hg
  split at hg
  · rename_i m l hm
    split at hg
    · rename_i hle
      simp only [Option.some.injEq] at hg
      have hr : r < B.length := by rw [h.len]; exact (List.getElem?_eq_some_iff.mp hm).1
      obtain ⟨b, o, hb⟩ : ∃ b o, B[r] = (b, o) := ⟨_, _, rfl⟩
      have hB : B[r]? = some (b, o) := by rw [← hb]; exact List.getElem?_eq_getElem hr
      obtain ⟨vs, hl, hc⟩ := h.has r m l b o hm hB
      refine ⟨b, o, (vs.drop off).take n, hB, ?_, hc.part off n, ?_⟩
      · rw [← hg]; exact (hl.drop off).take n
      · rw [← hg]; simp; omega
    · simp at hg
  · simp at hg
theorem HasC.write {w w' : World} {b o off : Nat} {us vs : List Value} (h : HasC w b o us) (hv : HasC w' b (o + off) vs) (hle : off + vs.length ≤ us.length)
    (hk : Keeps (fun x j => x = b ∧ o + off ≤ j ∧ j < o + off + vs.length) w w') : HasC w' b o (us.take off ++ vs ++ us.drop (off + vs.length)) := by
  have h1 : HasC w' b o (us.take off) := by
    refine hk.hasC (by simpa using h.part 0 off) ?_
    intro i hi; simp at hi; omega
  have h2 : HasC w' b (o + (off + vs.length)) (us.drop (off + vs.length)) := by
    refine hk.hasC (by have := h.part (off + vs.length) us.length; rwa [List.take_of_length_le (by simp)] at this) ?_
    intro i hi; omega
  intro i v hi
  rw [List.append_assoc, List.getElem?_append] at hi
  split at hi
  · exact h1 i v hi
  · rename_i hlt
    simp only [List.length_take, Nat.min_eq_left (show off ≤ us.length by omega)] at hi hlt
    rw [List.getElem?_append] at hi
    split at hi
    · have := hv (i - off) v hi
      rwa [show o + off + (i - off) = o + i by omega] at this
    · have := h2 (i - off - vs.length) v hi
      rwa [show o + (off + vs.length) + (i - off - vs.length) = o + i by omega] at this
/-- a store, by whatever hand -/
theorem Rep.put {S : Nat → Nat → Prop} {w0 : World} {V : VE D} {B : Bs} {st : SS} {w w' : World} (h : Rep S w0 V B st w) {r off : Nat} {cs : List SC} {mem' : List (Bool × List SC)}
    (hp : putM st.mem r off cs = some mem') {b o : Nat} (hB : B[r]? = some (b, o)) {vs : List Value} (hl : LIs V B cs vs) (hc : HasC w' b (o + off) vs)
    (hk : Keeps (fun x j => x = b ∧ o + off ≤ j ∧ j < o + off + vs.length) w w') : Rep S w0 V B { st with mem := mem' } w' := by
  unfold putM at hp
  split at hp
  · rename_i l hm
    split at hp
    · rename_i hle
      simp only [Option.some.injEq] at hp
      subst hp
      have hvl := hl.length
      have hr := (List.getElem?_eq_some_iff.mp hm).1
      obtain ⟨us, hus, huc⟩ := h.has r true l b o hm hB
      have hul := hus.length
      have look : ∀ r', ({ st with mem := st.mem.set r (true, l.take off ++ cs ++ l.drop (off + cs.length)) } : SS).mem[r']? = if r' = r then some (true, l.take off ++ cs ++ l.drop (off + cs.length)) else st.mem[r']? := by
        intro r'
        show (st.mem.set r _)[r']? = _
        rw [List.getElem?_set]
        by_cases e : r = r'
        · subst e; simp [hr]
        · rw [if_neg e, if_neg (fun h => e h.symm)]
      have hnl : (l.take off ++ cs ++ l.drop (off + cs.length)).length = l.length := by simp; omega
      refine ⟨?_, ?_, ?_, ?_, ?_⟩
      · refine h.keeps.trans' hk ?_
        rintro x i hx ⟨rfl, h1, h2⟩
        have := h.wr r l x o (i - o) hm hB (by omega) hx
        rwa [show o + (i - o) = i by omega] at this
      · simp [h.len]
      · intro r' m' cs' b' o' hm' hB'
        rw [look] at hm'
        split at hm'
        · rename_i e; subst e
          simp only [Option.some.injEq, Prod.mk.injEq] at hm'
          obtain ⟨rfl, rfl⟩ := hm'
          rw [hB] at hB'
          simp only [Option.some.injEq, Prod.mk.injEq] at hB'
          obtain ⟨rfl, rfl⟩ := hB'
          refine ⟨us.take off ++ vs ++ us.drop (off + vs.length), ?_, huc.write hc (by omega) hk⟩
          have := ((hus.take off).append hl).append (hus.drop (off + cs.length))
          rwa [← hvl] at this ⊢
        · rename_i e
          obtain ⟨vs', hl', hc'⟩ := h.has r' m' cs' b' o' hm' hB'
          refine ⟨vs', hl', hk.hasC hc' ?_⟩
          rintro i hi ⟨rfl, h1, h2⟩
          have hl'' := hl'.length
          exact h.disj r' r m' cs' true l b' o' b' o i (o' + i - o) e hm' hm hB' hB (by omega) (by omega) ⟨rfl, by omega⟩
      · intro r' cs' b' o' i hm' hB' hi hx
        rw [look] at hm'
        split at hm'
        · rename_i e; subst e
          simp only [Option.some.injEq, Prod.mk.injEq, true_and] at hm'
          subst hm'
          rw [hnl] at hi
          exact h.wr r' l b' o' i hm hB' hi hx
        · exact h.wr r' cs' b' o' i hm' hB' hi hx
      · intro r1 r2 m1 cs1 m2 cs2 b1 o1 b2 o2 i j hne h1 h2 hb1 hb2 hi hj
        rw [look] at h1 h2
        split at h1
        · rename_i e1; subst e1
          simp only [Option.some.injEq, Prod.mk.injEq] at h1
          obtain ⟨rfl, rfl⟩ := h1
          rw [hnl] at hi
          rw [if_neg (fun e => hne e.symm)] at h2
          exact h.disj r1 r2 true l m2 cs2 b1 o1 b2 o2 i j hne hm h2 hb1 hb2 hi hj
        · split at h2
          · rename_i e2; subst e2
            simp only [Option.some.injEq, Prod.mk.injEq] at h2
            obtain ⟨rfl, rfl⟩ := h2
            rw [hnl] at hj
            exact h.disj r1 r2 m1 cs1 true l b1 o1 b2 o2 i j hne h1 hm hb1 hb2 hi hj
          · exact h.disj r1 r2 m1 cs1 m2 cs2 b1 o1 b2 o2 i j hne h1 h2 hb1 hb2 hi hj
    · simp at hp
  · simp at hp
/-- a new block -/
theorem Rep.alloc {S : Nat → Nat → Prop} {w0 : World} {V : VE D} {B : Bs} {st : SS} {w : World} (h : Rep S w0 V B st w) (t : TypeId) {cs : List SC} {vs : List Value} (hl : LIs V B cs vs) :
    Rep S w0 V (B ++ [(w.heap.size, 0)]) { st with mem := st.mem ++ [(true, cs)] } { w with heap := w.heap.push (.cells vs.toArray t) } := by
  have hk := Keeps.alloc (fun _ _ => False) w (.cells vs.toArray t)
  have hB : ∀ (r b o : Nat), (B ++ [(w.heap.size, 0)])[r]? = some (b, o) → (r < B.length ∧ B[r]? = some (b, o)) ∨ (r = B.length ∧ b = w.heap.size ∧ o = 0) := by
    intro r b o hr
    rcases Nat.lt_trichotomy r B.length with hlt | rfl | hgt
    · rw [List.getElem?_append_left hlt] at hr; exact .inl ⟨hlt, hr⟩
    · rw [List.getElem?_append_right (Nat.le_refl _)] at hr
      simp at hr; exact .inr ⟨rfl, hr.1.symm, hr.2.symm⟩
    · rw [List.getElem?_eq_none (by simp; omega)] at hr; simp at hr
  have hM : ∀ (r : Nat) (x : Bool × List SC), (st.mem ++ [(true, cs)])[r]? = some x → (r < B.length ∧ st.mem[r]? = some x) ∨ (r = B.length ∧ x = (true, cs)) := by
    intro r x hr
    rw [h.len]
    rcases Nat.lt_trichotomy r st.mem.length with hlt | rfl | hgt
    · rw [List.getElem?_append_left hlt] at hr; exact .inl ⟨hlt, hr⟩
    · rw [List.getElem?_append_right (Nat.le_refl _)] at hr
      simp at hr; exact .inr ⟨rfl, hr.symm⟩
    · rw [List.getElem?_eq_none (by simp; omega)] at hr; simp at hr
  have hlt : ∀ (r : Nat) (m : Bool) (cs : List SC) (b o i : Nat), st.mem[r]? = some (m, cs) → B[r]? = some (b, o) → i < cs.length → b < w.heap.size := by
    intro r m cs b o i hm hb hi
    obtain ⟨vs, hl, hc⟩ := h.has r m cs b o hm hb
    exact hc.lt (by have := hl.length; omega)
  refine ⟨h.keeps.trans' hk (fun _ _ _ h => h.elim), by simp [h.len], ?_, ?_, ?_⟩
  · intro r m cs' b o hm hb
    rcases hM r _ hm with ⟨hr, hm⟩ | ⟨hr, e⟩
    · rcases hB r b o hb with ⟨_, hb⟩ | ⟨e, _⟩
      · obtain ⟨vs', hl', hc'⟩ := h.has r m cs' b o hm hb
        exact ⟨vs', hl'.mono _, hk.hasC hc' (fun _ _ h => h)⟩
      · omega
    · rcases hB r b o hb with ⟨hr', _⟩ | ⟨_, rfl, rfl⟩
      · omega
      · simp only [Prod.mk.injEq] at e
        obtain ⟨rfl, rfl⟩ := e
        refine ⟨vs, hl.mono _, ?_⟩
        intro i v hi
        constructor
        · have := World.cell?_alloc_new w vs.toArray t (0 + i)
          rw [show (w.alloc (.cells vs.toArray t)) = { w with heap := w.heap.push (.cells vs.toArray t) } from rfl] at this
          rw [this]; simpa using hi
        · exact ⟨vs.toArray, t, by simp⟩
  · intro r cs' b o i hm hb hi hx
    rcases hM r _ hm with ⟨hr, hm⟩ | ⟨hr, e⟩
    · rcases hB r b o hb with ⟨_, hb⟩ | ⟨e, _⟩
      · exact h.wr r cs' b o i hm hb hi hx
      · omega
    · rcases hB r b o hb with ⟨hr', _⟩ | ⟨_, rfl, rfl⟩
      · omega
      · have := h.keeps.size; omega
  · intro r r' m1 cs1 m2 cs2 b o b' o' i j hne hm hm' hb hb' hi hj
    rcases hM r _ hm with ⟨hr, hm⟩ | ⟨hr, e⟩
    · rcases hB r b o hb with ⟨_, hb⟩ | ⟨e, _⟩
      · rcases hM r' _ hm' with ⟨hr', hm'⟩ | ⟨hr', e'⟩
        · rcases hB r' b' o' hb' with ⟨_, hb'⟩ | ⟨e, _⟩
          · exact h.disj r r' m1 cs1 m2 cs2 b o b' o' i j hne hm hm' hb hb' hi hj
          · omega
        · rcases hB r' b' o' hb' with ⟨hr'', _⟩ | ⟨_, rfl, rfl⟩
          · omega
          · have := hlt r m1 cs1 b o i hm hb hi; omega
      · omega
    · rcases hB r b o hb with ⟨hr'', _⟩ | ⟨_, rfl, rfl⟩
      · omega
      · rcases hM r' _ hm' with ⟨hr', hm'⟩ | ⟨hr', e'⟩
        · rcases hB r' b' o' hb' with ⟨_, hb'⟩ | ⟨e, _⟩
          · have := hlt r' m2 cs2 b' o' j hm' hb' hj; omega
          · omega
        · omega
end
end Go.Proofs.YtnmkmbjbaagojaaGreatDoor
