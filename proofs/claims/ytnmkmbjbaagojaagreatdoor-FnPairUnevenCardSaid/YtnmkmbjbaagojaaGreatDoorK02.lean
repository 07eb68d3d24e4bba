/- A part of the proof of laws.FnPairUneven. -/
import Derived.Test.YtnmkmbjbaagojaaGreatDoorK01
import Derived.BigCall
namespace Go.Proofs.YtnmkmbjbaagojaaGreatDoor
open Go
set_option maxRecDepth 100000
set_option linter.unusedVariables false
set_option linter.unusedSimpArgs false
/-- what the reckoner must know of a type -/
structure TyI where
  size : Nat
  row : Bool
  zero : List Value
  fields : List (Option (Nat × Nat))
  arr : Option (Nat × Nat)
  ik : Option IntKind
  /-- the kind: 1 bool, 2 int, 3 string, 4 pointer, 5 slice, 6 interface, 7 struct, 8 array -/
  kd : Nat
  /-- of a slice: the elements' size in cells, in bytes, and the zero element -/
  sl : Option (Nat × Nat × List Value)
  /-- of a pointer: the size of what it points to -/
  pe : Option Nat
  cmp : Bool
  ms : List (String × Nat)
/-- the leaves: functions that are not entered -/
inductive Prim where
  | ebin (k : Nat)
  | eun (k : Nat)
  | t1 (k : Nat)
  | t2 (k : Nat)
  | copy (n : Nat)
  | pf (k : Nat) (ks : List IntKind)
def lk {α : Type} : List (Nat × α) → Nat → Option α
  | [], _ => none
  | (k, x) :: r, n => match Nat.beq k n with
    | true => some x
    | false => lk r n
def lkS {α : Type} : List (String × α) → String → Option α
  | [], _ => none
  | (k, x) :: r, n => match decide (k = n) with
    | true => some x
    | false => lkS r n
structure Ctx where
  ty : List (Nat × TyI)
  fn : List (Nat × Func)
  ex : List (Nat × Nat × List IntKind × List IntKind)
  gl : List (Nat × Nat)
  fd : Nat → List Int → Option (List Int)
/-- what the temporaries hold: a tree by the digits of their numbers -/
inductive TM where
  | e
  | n (v : Option SV) (l r : TM)
def TM.get : TM → Nat → Option SV
  | .e, _ => none
  | .n v l r, k => match k with
    | 0 => v
    | k + 1 => match Nat.mod k 2 with
      | 0 => l.get (Nat.div k 2)
      | _ => r.get (Nat.div k 2)
def TM.putF : Nat → TM → Nat → SV → TM
  | 0, t, _, _ => t
  | f + 1, t, k, x => match t, k with
    | .e, 0 => .n (some x) .e .e
    | .n _ l r, 0 => .n (some x) l r
    | .e, k + 1 => match Nat.mod k 2 with
      | 0 => .n none (TM.putF f .e (Nat.div k 2) x) .e
      | _ => .n none .e (TM.putF f .e (Nat.div k 2) x)
    | .n v l r, k + 1 => match Nat.mod k 2 with
      | 0 => .n v (TM.putF f l (Nat.div k 2) x) r
      | _ => .n v l (TM.putF f r (Nat.div k 2) x)
def TM.put (t : TM) (k : Nat) (x : SV) : TM := TM.putF (k + 1) t k x
def mkT : List (Nat × SV) → TM
  | [] => .e
  | (k, x) :: r => (mkT r).put k x
theorem TM.get_putF : ∀ (f : Nat) (t : TM) (k j : Nat) (x : SV), k < f → (TM.putF f t k x).get j = if j = k then some x else t.get j
  | 0, _, _, _, _, h => by omega
  | f + 1, t, k, j, x, h => by
    cases k with
    | zero =>
      cases t with
      | e => cases j with
        | zero => rfl
        | succ j =>
          simp only [TM.putF, TM.get]
          split <;> simp
      | n v l r => cases j with
        | zero => rfl
        | succ j => simp [TM.putF, TM.get]
    | succ k =>
      have hlt : Nat.div k 2 < f := by
        have : k / 2 < f := by omega
        exact this
      have key : ∀ (t : TM) (j : Nat), (TM.putF f t (Nat.div k 2) x).get (Nat.div j 2) = if Nat.div j 2 = Nat.div k 2 then some x else t.get (Nat.div j 2) := fun t j => TM.get_putF f t _ _ x hlt
      have hmod : ∀ j, Nat.mod j 2 = Nat.mod k 2 → Nat.div j 2 = Nat.div k 2 → j = k := by
        intro j h1 h2
        have h1 : j % 2 = k % 2 := h1
        have h2 : j / 2 = k / 2 := h2
        omega
      cases t with
      | e =>
        cases j with
        | zero =>
          simp only [TM.putF]
          split <;> simp [TM.get]
        | succ j =>
          simp only [TM.putF]
          split
          · rename_i hk
            simp only [TM.get]
            split
            · rename_i hj
              rw [key]
              by_cases e : j = k
              · subst e; simp
              · rw [if_neg (fun h2 => e (hmod j (hj.trans hk.symm) h2)), if_neg (by omega)]; rfl
            · rename_i hj
              rw [if_neg]
              intro e; have e : j = k := by omega
              subst e; exact hj hk
          · rename_i hk
            have hk1 : Nat.mod k 2 = 1 := by
              have h2 : k % 2 ≠ 0 := hk
              show k % 2 = 1
              omega
            simp only [TM.get]
            split
            · rename_i hj
              rw [if_neg]
              intro e; have e : j = k := by omega
              subst e; exact hk hj
            · rename_i hj
              have hj1 : Nat.mod j 2 = 1 := by
                have h2 : j % 2 ≠ 0 := hj
                show j % 2 = 1
                omega
              rw [key]
              by_cases e : j = k
              · subst e; simp
              · rw [if_neg (fun h2 => e (hmod j (hj1.trans hk1.symm) h2)), if_neg (by omega)]; rfl
      | n v l r =>
        cases j with
        | zero =>
          simp only [TM.putF]
          split <;> simp [TM.get]
        | succ j =>
          simp only [TM.putF]
          split
          · rename_i hk
            simp only [TM.get]
            split
            · rename_i hj
              rw [key]
              by_cases e : j = k
              · subst e; simp
              · rw [if_neg (fun h2 => e (hmod j (hj.trans hk.symm) h2)), if_neg (by omega)]
            · rename_i hj
              rw [if_neg]
              intro e; have e : j = k := by omega
              subst e; exact hj hk
          · rename_i hk
            have hk1 : Nat.mod k 2 = 1 := by
              have h2 : k % 2 ≠ 0 := hk
              show k % 2 = 1
              omega
            simp only [TM.get]
            split
            · rename_i hj
              rw [if_neg]
              intro e; have e : j = k := by omega
              subst e; exact hk hj
            · rename_i hj
              have hj1 : Nat.mod j 2 = 1 := by
                have h2 : j % 2 ≠ 0 := hj
                show j % 2 = 1
                omega
              rw [key]
              by_cases e : j = k
              · subst e; simp
              · rw [if_neg (fun h2 => e (hmod j (hj1.trans hk1.symm) h2)), if_neg (by omega)]
theorem TM.get_put (t : TM) (k j : Nat) (x : SV) : (t.put k x).get j = if j = k then some x else t.get j := TM.get_putF _ _ _ _ _ (Nat.lt_succ_self _)
theorem mkT_get : ∀ (l : List (Nat × SV)) (t : Nat), (mkT l).get t = lk l t
  | [], _ => rfl
  | (k, x) :: r, t => by
    show ((mkT r).put k x).get t = _
    rw [TM.get_put, mkT_get r t]
    unfold lk
    cases h : Nat.beq k t with
    | true => rw [if_pos (Nat.eq_of_beq_eq_true h).symm]
    | false => rw [if_neg (fun e => Nat.ne_of_beq_eq_false h e.symm)]; cases r <;> rfl
def litsI : List IE → Option (List Int)
  | [] => some []
  | .lit n :: r => match litsI r with
    | some l => some (n :: l)
    | none => none
  | .var _ :: _ => none
def litInts : List IntKind → List Int → List SA
  | k :: ks, n :: ns => .c (.lit (.int k n)) :: litInts ks ns
  | _, _ => []
def litV (v : Value) : SV := .a (.c (.lit v))
def opnd (T : TM) : Operand → Option SV
  | .tmp t => T.get t
  | .const v => some (litV v)
  | .global g => some (litV (.pointer (some ⟨g, 0, none⟩)))
  | _ => none
def ieOf : SV → Option (IntKind × IE)
  | .a (.c (.lit (.int k n))) => some (k, .lit n)
  | .a (.c (.iv k i)) => some (k, .var i)
  | _ => none
def ies : List IntKind → List SV → Option (List IE)
  | [], [] => some []
  | k :: ks, v :: vs => match ieOf v, ies ks vs with
    | some (k', e), some es => if k' = k then some (e :: es) else none
    | _, _ => none
  | _, _ => none
def newInts (i : Nat) : List IntKind → List SA
  | [] => []
  | k :: ks => .c (.iv k i) :: newInts (i + 1) ks
def mkSV : List SA → SV
  | [x] => .a x
  | l => .tup l
def mkVal : List Value → Value
  | [x] => x
  | l => .tuple l.toArray
def zipI : List IntKind → List Int → List Value
  | k :: ks, n :: ns => .int k n :: zipI ks ns
  | _, _ => []
def opnds (T : TM) : List Operand → Option (List SV)
  | [] => some []
  | x :: r => match opnd T x, opnds T r with
    | some v, some vs => some (v :: vs)
    | _, _ => none
def isArith : BinOp → Bool
  | .add | .sub | .mul | .and | .or | .xor | .andNot => true
  | _ => false
def isDiv : BinOp → Bool
  | .quo | .rem => true
  | _ => false
def isCmp : BinOp → Bool
  | .eql | .neq | .lss | .leq | .gtr | .geq => true
  | _ => false
def isShift : BinOp → Bool
  | .shl | .shr => true
  | _ => false
def nneg : IE → Bool
  | .lit n => decide (0 ≤ n)
  | _ => false
def nzero : IE → Bool
  | .lit n => decide (n ≠ 0)
  | _ => false
def intA (st : SS) (op : BinOp) (k : IntKind) (a b : IE) : SS × SV :=
  match a, b with
  | .lit m, .lit n => (st, litV (.int k (ibinF op k m n)))
  | _, _ => ({ st with ni := st.ni + 1, tr := .ibin st.ni op k a b :: st.tr }, .a (.c (.iv k st.ni)))
def intC (st : SS) (op : BinOp) (a b : IE) : Option (SS × SV) :=
  match a, b with
  | .lit m, .lit n => some (st, litV (.bool (cmpF op m n)))
  | _, _ => match st.dec with
    | d :: ds => some ({ st with dec := ds, tr := .cmp op a b d :: st.tr }, litV (.bool d))
    | [] => none
/-- an operation on numbers -/
def intOp (st : SS) (op : BinOp) (x y : SV) : Option (SS × SV) :=
  match ieOf x, ieOf y with
  | some (k, a), some (k', b) =>
    if isArith op = true ∧ k = k' ∨ isShift op = true ∧ nneg b = true ∨ isDiv op = true ∧ k = k' ∧ nzero b = true then some (intA st op k a b)
    else if isCmp op = true ∧ k = k' then intC st op a b
    else if isShift op = true then match st.dec with
      | true :: ds => some (intA { st with dec := ds, tr := .cmp .geq b (.lit 0) true :: st.tr } op k a b)
      | _ => none
    else none
  | _, _ => none
/-- the less, or the greater -/
def mnmx (st : SS) (op : BinOp) (x y : SV) : Option (SS × SV) :=
  match ieOf x, ieOf y with
  | some (k, a), some (k', b) => if k = k' then match intC st op b a with
      | some (st', .a (.c (.lit (.bool true)))) => some (st', y)
      | some (st', .a (.c (.lit (.bool false)))) => some (st', x)
      | _ => none
    else none
  | _, _ => none
/-- which number from k on, below k + n, a name stands for: by the tests -/
def enumI (j : Nat) : Nat → Nat → SS → Option (SS × Nat)
  | 0, _, _ => none
  | n + 1, k, st => match st.dec with
    | true :: ds => some ({ st with dec := ds, tr := .cmp .eql (.var j) (.lit (.ofNat k)) true :: st.tr }, k)
    | false :: ds => enumI j n (k + 1) { st with dec := ds, tr := .cmp .eql (.var j) (.lit (.ofNat k)) false :: st.tr }
    | [] => none
def SC.one : SC → Bool
  | .lit v => v.oneCell'
  | _ => true
/-- the cells of a value that is stored -/
def cellsOf : SV → Option (List SC)
  | .a (.agg l) => if l.all SC.one = true then some l else none
  | .a (.c x) => if x.one = true then some [x] else none
  | .tup _ => none
/-- where a part of a struct or an array stands -/
def placeS (i : TyI) (k : Nat) : Option (Nat × Nat) :=
  match i.arr with
  | some (_, sz) => some (k * sz, sz)
  | none => match i.fields[k]? with
    | some (some p) => some p
    | _ => none
def fillS (i : TyI) (T : TM) : List SC → List (Nat × Operand) → Option (List SC)
  | cs, [] => some cs
  | cs, (k, x) :: r => match placeS i k, (opnd T x).bind cellsOf with
    | some (off, sz), some vs => if vs.length = sz ∧ off + vs.length ≤ cs.length then fillS i T (cs.take off ++ vs ++ cs.drop (off + vs.length)) r else none
    | _, _ => none
def fullF (i : TyI) : Bool := i.arr.isSome || ((!i.fields.isEmpty || Nat.beq i.kd 7) && i.fields.all Option.isSome)
def pNil (T : TM) (st : SS) (x : Operand) : Option (SS × SV) :=
  match opnd T x with
  | some (.a (.c (.ptr r k))) => some (st, .a (.c (.ptr r k)))
  | _ => none
def pField (C : Ctx) (T : TM) (st : SS) (s : Nat) (x : Operand) (f : Nat) : Option (SS × SV) :=
  match opnd T x, lk C.ty s with
  | some (.a (.c (.ptr r k))), some i => match i.fields[f]? with
    | some (some (off, _)) => some (st, .a (.c (.ptr r (k + off))))
    | _ => none
  | _, _ => none
def pIndex (C : Ctx) (T : TM) (st : SS) (t : Nat) (x ix : Operand) : Option (SS × SV) :=
  match opnd T x, opnd T ix, lk C.ty t with
  | some (.a (.c (.ptr r k))), some (.a (.c (.lit (.int _ n)))), some i => match i.arr with
    | some (len, sz) => if 0 ≤ n ∧ n < len then some (st, .a (.c (.ptr r (k + n.toNat * sz)))) else none
    | none => none
  | some (.a (.c (.ptr r k))), some (.a (.c (.iv _ j))), some i => match i.arr with
    | some (len, sz) => match enumI j len 0 st with
      | some (st', m) => some (st', .a (.c (.ptr r (k + m * sz))))
      | none => none
    | none => none
  | _, _, _ => none
def pExtract (T : TM) (st : SS) (x : Operand) (i : Nat) : Option (SS × SV) :=
  match opnd T x with
  | some (.tup l) => (l[i]?).map fun v => (st, .a v)
  | _ => none
def pPick (T : TM) (st : SS) (c x y : Operand) : Option (SS × SV) :=
  match opnd T c with
  | some (.a (.c (.lit (.bool true)))) => (opnd T x).map fun v => (st, v)
  | some (.a (.c (.lit (.bool false)))) => (opnd T y).map fun v => (st, v)
  | _ => none
def pBin (T : TM) (st : SS) (op : BinOp) (x y : Operand) : Option (SS × SV) :=
  match opnd T x, opnd T y with
  | some a, some b => intOp st op a b
  | _, _ => none
def pNot (T : TM) (st : SS) (x : Operand) : Option (SS × SV) :=
  match opnd T x with
  | some (.a (.c (.lit (.bool b)))) => some (st, litV (.bool !b))
  | _ => none
def pNeg (T : TM) (st : SS) (x : Operand) : Option (SS × SV) :=
  match (opnd T x).bind ieOf with
  | some (k, a) => some (intA st .sub k (.lit 0) a)
  | none => none
def pXor (T : TM) (st : SS) (x : Operand) : Option (SS × SV) :=
  match (opnd T x).bind ieOf with
  | some (k, a) => some (intA st .xor k (.lit (if k.signed then -1 else k.max)) a)
  | none => none
def pConv (C : Ctx) (T : TM) (st : SS) (src dst : Nat) (x : Operand) : Option (SS × SV) :=
  match opnd T x, lk C.ty dst, lk C.ty src with
  | some v, some i, some _ => match i.ik, ieOf v with
    | some k, some (_, .lit n) => some (st, litV (.int k (k.wrap n)))
    | some k, some (_, .var j) => some ({ st with ni := st.ni + 1, tr := .ibin st.ni .add k (.var j) (.lit 0) :: st.tr }, .a (.c (.iv k st.ni)))
    | _, _ => none
  | _, _, _ => none
def pBuild (C : Ctx) (T : TM) (st : SS) (t : Nat) (parts : Array (Nat × Operand)) : Option (SS × SV) :=
  match lk C.ty t with
  | some i => match i.row && fullF i, fillS i T (i.zero.map SC.lit) parts.toList with
    | true, some cs => some (st, .a (.agg cs))
    | _, _ => none
  | none => none
def pExt (C : Ctx) (T : TM) (st : SS) (f : Nat) (args : Array Operand) : Option (SS × SV) :=
  match lk C.ex f, opnds T args.toList with
  | some (k, as, rs), some vs => match ies as vs with
    | some xs => match (litsI xs).bind (C.fd k) with
      | some ys => some (st, mkSV (litInts rs ys))
      | none => some ({ st with ni := st.ni + rs.length, tr := .pf st.ni rs.length k xs :: st.tr }, mkSV (newInts st.ni rs))
    | none => none
  | _, _ => none
def pMnmx (T : TM) (st : SS) (op : BinOp) (args : Array Operand) : Option (SS × SV) :=
  match opnds T args.toList with
  | some [x, y] => mnmx st op x y
  | _ => none
def pArr (C : Ctx) (T : TM) (st : SS) (t : Nat) (x : Operand) : Option (SS × SV) :=
  match opnd T x, lk C.ty t with
  | some (.a (.c (.slc r off len _))), some i => match i.arr with
    | some (n, _) => match Nat.ble n len with
      | true => some (st, .a (.c (.ptr r off)))
      | false => none
    | none => none
  | _, _ => none
def pCall (C : Ctx) (T : TM) (st : SS) (c : Call) : Option (SS × SV) :=
  match c.callee with
  | .value (.func f) => pExt C T st f c.args
  | .builtin .min => pMnmx T st .lss c.args
  | .builtin .max => pMnmx T st .gtr c.args
  | _ => none
/-- an operation that leaves the memory alone -/
def pureOp (C : Ctx) (T : TM) (st : SS) (o : Oper) : Option (SS × SV) :=
  match o.op with
  | .move x | .assign x => (opnd T x).map fun v => (st, v)
  | .nilCheck x => pNil T st x
  | .fieldAddr s x f => pField C T st s x f
  | .indexAddr t x ix => pIndex C T st t x ix
  | .extract x i => pExtract T st x i
  | .pick c x y => pPick T st c x y
  | .binOp op _ x y _ => pBin T st op x y
  | .unOp .not _ x => pNot T st x
  | .unOp .neg _ x => pNeg T st x
  | .unOp .xor _ x => pXor T st x
  | .convert src dst x => pConv C T st src dst x
  | .build t parts => pBuild C T st t parts
  | .call c => pCall C T st c
  | .sliceToArrayPointer t x => pArr C T st t x
  | _ => none
def kdOf : TypeDesc → Nat
  | .bool => 1
  | .int _ => 2
  | .string => 3
  | .pointer _ => 4
  | .slice _ => 5
  | .interface _ => 6
  | .struct _ => 7
  | .array _ _ => 8
  | _ => 0
/-- the facts on a type that the reckoner leans on -/
structure TyOk (P : Program) (t : Nat) (i : TyI) : Prop where
  size : (P.info? t).map (·.size) = some i.size
  desc : ∃ d : TypeDesc, P.underlying t = some d ∧ d.isRow = i.row ∧ (∀ (k : IntKind), i.ik = some k → d = .int k) ∧ (∀ (n sz : Nat), i.arr = some (n, sz) → 1 < n ∧ ∃ e, d = .array n e ∧ (P.info? e).map (·.size) = some sz) ∧
    (∀ (f off s : Nat), i.fields[f]? = some (some (off, s)) → ∃ (fs : Array Field) (fd : Field), d = .struct fs ∧ fs[f]? = some fd ∧ fd.offset = off ∧ (P.info? fd.type).map (·.size) = some s ∧ s ≠ 0)
  zero : ∃ z, (P.info? t).bind (·.zero) = some z ∧ z.cells = i.zero.toArray
  cnt : ∀ fs, P.underlying t = some (.struct fs) → i.fields.length = fs.size
  kd : ∀ d, P.underlying t = some d → kdOf d = i.kd
  sl : ∀ sz by' z, i.sl = some (sz, by', z) → ∃ e inf zv, P.underlying t = some (.slice e) ∧ P.info? e = some inf ∧ inf.size = sz ∧ inf.bytes = by' ∧ inf.zero = some zv ∧ zv.cells = z.toArray ∧ z.length = sz
  pe : ∀ sz, i.pe = some sz → ∃ e, P.underlying t = some (.pointer e) ∧ (P.info? e).map (·.size) = some sz
  cmp : i.cmp = true → ∃ inf, P.info? t = some inf ∧ inf.comparable = true
  ms : ∀ n f, lkS i.ms n = some f → ∃ inf m, P.info? t = some inf ∧ inf.methods.find? (·.name == n) = some m ∧ m.path = #[] ∧ m.func = some (f, true)
section
variable {D : Dom} {P : Program}
structure TOK (V : VE D) (B : Bs) (N : Nat) (T : TM) (a : Act) : Prop where
  size : a.tmps.size = N
  look : ∀ t v, T.get t = some v → ∃ u, a.tmps[t]? = some u ∧ v.is V B u
  defers : a.defers = []
theorem TOK.mono {V : VE D} {B : Bs} {N : Nat} {T : TM} {a : Act} (X : Bs) (h : TOK V B N T a) : TOK V (B ++ X) N T a :=
  ⟨h.size, fun t v ht => let ⟨u, h1, h2⟩ := h.look t v ht; ⟨u, h1, SV.mono X h2⟩, h.defers⟩
theorem TOK.put {V : VE D} {B : Bs} {N : Nat} {T : TM} {a : Act} (h : TOK V B N T a) {d : Nat} {v : SV} {u : Value} (hd : d < N) (hv : v.is V B u) : TOK V B N (T.put d v) (a.put (some d) u) := by
  refine ⟨by simp [Act.put, h.size], ?_, h.defers⟩
  intro t x ht
  rw [TM.get_put] at ht
  split at ht
  · rename_i e
    subst e
    simp only [Option.some.injEq] at ht
    subst ht
    exact ⟨u, by simp [Act.put, h.size, hd], hv⟩
  · rename_i e
    obtain ⟨u', h1, h2⟩ := h.look t x ht
    exact ⟨u', by simp only [Act.put]; rw [Array.getElem?_setIfInBounds_ne (fun h => e h.symm)]; exact h1, h2⟩
theorem TOK.opnd {V : VE D} {B : Bs} {N : Nat} {T : TM} {a : Act} (h : TOK V B N T a) {x : Operand} {v : SV} (hx : opnd T x = some v) : v.is V B (a.eval x) := by
  cases x with
  | tmp t =>
    obtain ⟨u, h1, h2⟩ := h.look t v hx
    show v.is V B (a.tmps.getD t undef)
    rw [Array.getD_eq_getD_getElem?, h1]; exact h2
  | const c => simp only [YtnmkmbjbaagojaaGreatDoor.opnd, Option.some.injEq] at hx; subst hx; rfl
  | global g => simp only [YtnmkmbjbaagojaaGreatDoor.opnd, Option.some.injEq] at hx; subst hx; rfl
  | func f => simp [YtnmkmbjbaagojaaGreatDoor.opnd] at hx
theorem ieOf_is {V : VE D} {B : Bs} {v : SV} {k : IntKind} {e : IE} (h : ieOf v = some (k, e)) {u : Value} (hu : v.is V B u) : u = .int k (e.den V) := by
  match v, h, hu with
  | .a (.c (.lit (.int _ n))), h, hu =>
    simp only [ieOf, Option.some.injEq, Prod.mk.injEq] at h
    obtain ⟨rfl, rfl⟩ := h
    exact hu
  | .a (.c (.iv _ i)), h, hu =>
    simp only [ieOf, Option.some.injEq, Prod.mk.injEq] at h
    obtain ⟨rfl, rfl⟩ := h
    exact hu
theorem run_eqGuard_int (w : World) (op : BinOp) (t : TypeId) (x y : Operand) (k k' : IntKind) (a b : Int) : (eqGuard op t x y (.int k a) (.int k' b)).run P w = .ok () w := by
  unfold eqGuard
  split <;> rfl
theorem run_binOp_arith (w : World) (op : BinOp) (t : TypeId) (k : IntKind) (a b : Int) (h : isArith op = true) : (binOp op t (.int k a) (.int k b)).run P w = .ok (.int k (ibinF op k a b)) w := by
  cases op <;> simp [isArith] at h <;> simp [binOp, Op.intArith, Op.intBits, ibinF]
theorem run_binOp_cmp (w : World) (op : BinOp) (t : TypeId) (k : IntKind) (a b : Int) (h : isCmp op = true) : (binOp op t (.int k a) (.int k b)).run P w = .ok (.bool (cmpF op a b)) w := by
  cases op <;> simp [isCmp] at h <;> simp [binOp, Op.intCmp, cmpF]
theorem run_binOp_shift (w : World) (op : BinOp) (t : TypeId) (k k' : IntKind) (a b : Int) (h : isShift op = true) (hb : 0 ≤ b) : (binOp op t (.int k a) (.int k' b)).run P w = .ok (.int k (ibinF op k a b)) w := by
  have hb' : ¬ b < 0 := by omega
  cases op <;> simp [isShift] at h <;> simp [binOp, Op.shift, ibinF, hb']
theorem run_binOp_div (w : World) (op : BinOp) (t : TypeId) (k : IntKind) (a b : Int) (h : isDiv op = true) (hb : b ≠ 0) : (binOp op t (.int k a) (.int k b)).run P w = .ok (.int k (ibinF op k a b)) w := by
  cases op <;> simp [isDiv] at h <;> simp [binOp, Op.intDiv, ibinF, hb]
theorem intA_mem (st : SS) (op : BinOp) (k : IntKind) (a b : IE) : (intA st op k a b).1.mem = st.mem ∧ ∀ t ∈ st.tr, t ∈ (intA st op k a b).1.tr := by
  unfold intA; split
  · exact ⟨rfl, fun _ h => h⟩
  · exact ⟨rfl, fun t ht => by simp [ht]⟩
theorem intC_mem {st : SS} {op : BinOp} {a b : IE} {st' : SS} {v : SV} (h : intC st op a b = some (st', v)) : st'.mem = st.mem ∧ ∀ t ∈ st.tr, t ∈ st'.tr := by
  unfold intC at h; split at h
  · simp only [Option.some.injEq, Prod.mk.injEq] at h; obtain ⟨rfl, _⟩ := h; exact ⟨rfl, fun _ h => h⟩
  · split at h
    · simp only [Option.some.injEq, Prod.mk.injEq] at h; obtain ⟨rfl, _⟩ := h; exact ⟨rfl, fun t ht => by simp [ht]⟩
    · simp at h
theorem intOp_mem {st : SS} {op : BinOp} {x y : SV} {st' : SS} {v : SV} (h : intOp st op x y = some (st', v)) : st'.mem = st.mem ∧ ∀ t ∈ st.tr, t ∈ st'.tr := by
  unfold intOp at h
  split at h
  · split at h
    · simp only [Option.some.injEq] at h
      rename_i k a k' b _ _ _
      have := intA_mem st op k a b
      rw [h] at this; exact this
    · split at h
      · exact intC_mem h
      · split at h
        · split at h
          · simp only [Option.some.injEq] at h
            rename_i k a k' b _ _ _ _ _ _ ds _
            have := intA_mem { st with dec := ds, tr := .cmp .geq b (.lit 0) true :: st.tr } op k a b
            rw [h] at this
            exact ⟨this.1, fun t ht => this.2 t (List.mem_cons_of_mem _ ht)⟩
          · simp at h
        · simp at h
  · simp at h
theorem mnmx_mem {st : SS} {op : BinOp} {x y : SV} {st' : SS} {v : SV} (h : mnmx st op x y = some (st', v)) : st'.mem = st.mem ∧ ∀ t ∈ st.tr, t ∈ st'.tr := by
  unfold mnmx at h
  split at h
  · split at h
    · split at h
      · rename_i hc; simp only [Option.some.injEq, Prod.mk.injEq] at h; obtain ⟨rfl, _⟩ := h; exact intC_mem hc
      · rename_i hc; simp only [Option.some.injEq, Prod.mk.injEq] at h; obtain ⟨rfl, _⟩ := h; exact intC_mem hc
      · simp at h
    · simp at h
  · simp at h
theorem intA_sound {st : SS} {op : BinOp} {k : IntKind} {a b : IE} {V : VE D} {B : Bs} (hh : ∀ t ∈ (intA st op k a b).1.tr, t.holds V) : (intA st op k a b).2.is V B (.int k (ibinF op k (a.den V) (b.den V))) := by
  unfold intA at *
  split at hh
  · rfl
  · have := hh (.ibin st.ni op k a b) (by simp)
    show Value.int k _ = .int k (V.it st.ni)
    rw [show V.it st.ni = _ from this]
theorem intC_sound {st : SS} {op : BinOp} {a b : IE} {st' : SS} {v : SV} (h : intC st op a b = some (st', v)) {V : VE D} {B : Bs} (hh : ∀ t ∈ st'.tr, t.holds V) : v.is V B (.bool (cmpF op (a.den V) (b.den V))) := by
  unfold intC at h
  split at h
  · simp only [Option.some.injEq, Prod.mk.injEq] at h; obtain ⟨rfl, rfl⟩ := h; rfl
  · split at h
    · rename_i d ds _
      simp only [Option.some.injEq, Prod.mk.injEq] at h; obtain ⟨rfl, rfl⟩ := h
      have := hh (.cmp op a b d) (by simp)
      show Value.bool _ = .bool d
      rw [show cmpF op (a.den V) (b.den V) = d from this]
    · simp at h
theorem intOp_sound {st : SS} {op : BinOp} {x y : SV} {st' : SS} {v : SV} (h : intOp st op x y = some (st', v)) {V : VE D} {B : Bs} (hh : ∀ t ∈ st'.tr, t.holds V) {u1 u2 : Value}
    (h1 : x.is V B u1) (h2 : y.is V B u2) (t : TypeId) (ox oy : Operand) : ∃ u, v.is V B u ∧ ∀ w, (eqGuard op t ox oy u1 u2).run P w = .ok () w ∧ (binOp op t u1 u2).run P w = .ok u w := by
  unfold intOp at h
  split at h
  · rename_i k a k' b ha hb
    have e1 := ieOf_is ha h1
    have e2 := ieOf_is hb h2
    subst e1; subst e2
    split at h
    · rename_i hc
      have hrun : ∀ w, (binOp op t (.int k (a.den V)) (.int k' (b.den V))).run P w = .ok (.int k (ibinF op k (a.den V) (b.den V))) w := by
        intro w
        rcases hc with ⟨hc, rfl⟩ | ⟨hc, hb0⟩ | ⟨hc, rfl, hb0⟩
        · exact run_binOp_arith w op t k _ _ hc
        · cases b with
          | lit n => exact run_binOp_shift w op t k k' _ _ hc (by simp only [nneg, decide_eq_true_eq] at hb0; exact hb0)
          | var i => simp [nneg] at hb0
        · cases b with
          | lit n => exact run_binOp_div w op t k _ _ hc (by simp only [nzero, decide_eq_true_eq] at hb0; exact hb0)
          | var i => simp [nzero] at hb0
      simp only [Option.some.injEq] at h
      have := intA_sound (st := st) (op := op) (k := k) (a := a) (b := b) (V := V) (B := B) (by rw [h]; exact hh)
      rw [h] at this
      exact ⟨_, this, fun w => ⟨run_eqGuard_int _ _ _ _ _ _ _ _ _, hrun w⟩⟩
    · split at h
      · rename_i hc
        obtain ⟨hc, rfl⟩ := hc
        exact ⟨_, intC_sound h hh, fun w => ⟨run_eqGuard_int _ _ _ _ _ _ _ _ _, run_binOp_cmp (P := P) w op t k (a.den V) (b.den V) hc⟩⟩
      · split at h
        · rename_i hc
          split at h
          · rename_i ds _
            simp only [Option.some.injEq] at h
            have hm := intA_mem { st with dec := ds, tr := .cmp .geq b (.lit 0) true :: st.tr } op k a b
            rw [h] at hm
            have hb0 : decide (b.den V ≥ 0) = true := hh _ (hm.2 (.cmp .geq b (.lit 0) true) (by simp))
            have hb0 : 0 ≤ b.den V := of_decide_eq_true hb0
            have := intA_sound (st := { st with dec := ds, tr := .cmp .geq b (.lit 0) true :: st.tr }) (op := op) (k := k) (a := a) (b := b) (V := V) (B := B) (by rw [h]; exact hh)
            rw [h] at this
            exact ⟨_, this, fun w => ⟨run_eqGuard_int _ _ _ _ _ _ _ _ _, run_binOp_shift w op t k k' _ _ hc hb0⟩⟩
          · simp at h
        · simp at h
  · simp at h
theorem mnmx_sound {st : SS} {op : BinOp} {x y : SV} {st' : SS} {v : SV} (h : mnmx st op x y = some (st', v)) {V : VE D} {B : Bs} (hh : ∀ t ∈ st'.tr, t.holds V) {u1 u2 : Value}
    (h1 : x.is V B u1) (h2 : y.is V B u2) : ∃ k a b, u1 = .int k a ∧ u2 = .int k b ∧ v.is V B (.int k (if cmpF op b a = true then b else a)) := by
  unfold mnmx at h
  split at h
  · rename_i k a k' b ha hb
    have e1 := ieOf_is ha h1
    have e2 := ieOf_is hb h2
    split at h
    · rename_i hk
      subst hk
      split at h
      · rename_i hc
        simp only [Option.some.injEq, Prod.mk.injEq] at h; obtain ⟨rfl, rfl⟩ := h
        have hb : Value.bool (cmpF op (b.den V) (a.den V)) = .bool true := intC_sound (B := B) hc hh
        simp only [Value.bool.injEq] at hb
        exact ⟨k, a.den V, b.den V, e1, e2, by rw [if_pos hb, ← e2]; exact h2⟩
      · rename_i hc
        simp only [Option.some.injEq, Prod.mk.injEq] at h; obtain ⟨rfl, rfl⟩ := h
        have hb : Value.bool (cmpF op (b.den V) (a.den V)) = .bool false := intC_sound (B := B) hc hh
        simp only [Value.bool.injEq] at hb
        exact ⟨k, a.den V, b.den V, e1, e2, by rw [if_neg (by simp [hb]), ← e1]; exact h1⟩
      · simp at h
    · simp at h
  · simp at h
def SVs (V : VE D) (B : Bs) : List SV → List Value → Prop
  | [], [] => True
  | x :: l, u :: m => x.is V B u ∧ SVs V B l m
  | _, _ => False
theorem SVs.length {V : VE D} {B : Bs} : ∀ {l : List SV} {m : List Value}, SVs V B l m → m.length = l.length
  | [], [], _ => rfl
  | _ :: _, _ :: _, h => by simp [SVs.length h.2]
  | [], _ :: _, h => h.elim
  | _ :: _, [], h => h.elim
theorem opnds_is {V : VE D} {B : Bs} {N : Nat} {T : TM} {a : Act} (ha : TOK V B N T a) : ∀ {l : List Operand} {vs : List SV}, opnds T l = some vs → SVs V B vs (l.map a.eval)
  | [], vs, h => by simp only [opnds, Option.some.injEq] at h; subst h; trivial
  | x :: r, vs, h => by
    unfold opnds at h
    split at h
    · rename_i v vs' hx hr
      simp only [Option.some.injEq] at h; subst h
      exact ⟨ha.opnd hx, opnds_is ha hr⟩
    · simp at h
theorem ies_is {V : VE D} {B : Bs} : ∀ {as : List IntKind} {vs : List SV} {xs : List IE} {us : List Value}, ies as vs = some xs → SVs V B vs us → us = zipI as (xs.map (·.den V)) ∧ (xs.map (·.den V)).length = as.length
  | [], [], xs, [], h, _ => by simp only [ies, Option.some.injEq] at h; subst h; exact ⟨rfl, rfl⟩
  | [], _ :: _, _, _, h, _ => by simp [ies] at h
  | _ :: _, [], _, _, h, _ => by simp [ies] at h
  | k :: ks, v :: vs, xs, u :: us, h, hs => by
    unfold ies at h
    split at h
    · rename_i k' e es hv hr
      split at h
      · rename_i hk
        subst hk
        simp only [Option.some.injEq] at h; subst h
        obtain ⟨h1, h2⟩ := ies_is hr hs.2
        have := ieOf_is hv hs.1
        subst this
        exact ⟨by rw [h1]; rfl, by simpa using h2⟩
      · simp at h
    · simp at h
  | [], [], _, _ :: _, _, hs => hs.elim
  | _ :: _, _ :: _, _, [], _, hs => hs.elim
theorem newInts_is {V : VE D} {B : Bs} : ∀ (rs : List IntKind) (i : Nat) (ns : List Int), (List.range rs.length).map (fun j => V.it (i + j)) = ns → ALIs V B (newInts i rs) (zipI rs ns)
  | [], _, _, _ => trivial
  | k :: ks, i, ns, h => by
    simp only [List.length_cons, List.range_succ_eq_map, List.map_cons, List.map_map] at h
    subst h
    refine ⟨rfl, ?_⟩
    refine newInts_is ks (i + 1) _ ?_
    apply List.map_congr_left
    intro j _
    show V.it (i + 1 + j) = V.it (i + (j + 1))
    congr 1; omega
theorem litInts_is {V : VE D} {B : Bs} : ∀ (rs : List IntKind) (ns : List Int), ALIs V B (litInts rs ns) (zipI rs ns)
  | [], _ => trivial
  | _ :: _, [] => trivial
  | _ :: r, _ :: m => ⟨rfl, litInts_is r m⟩
theorem litsI_den {V : VE D} : ∀ {xs : List IE} {ns : List Int}, litsI xs = some ns → xs.map (·.den V) = ns
  | [], ns, h => by simp only [litsI, Option.some.injEq] at h; subst h; rfl
  | .lit n :: r, ns, h => by
    unfold litsI at h
    split at h
    · rename_i l hl
      simp only [Option.some.injEq] at h; subst h
      show n :: _ = _
      rw [litsI_den hl]
    · simp at h
  | .var _ :: _, ns, h => by simp [litsI] at h
theorem mkSV_is {V : VE D} {B : Bs} {l : List SA} {m : List Value} (h : ALIs V B l m) : (mkSV l).is V B (mkVal m) := by
  match l, m, h with
  | [], [], h => exact ⟨[], h, rfl⟩
  | [x], [u], h => exact h.1
  | x :: y :: l, u :: v :: m, h => exact ⟨u :: v :: m, h, rfl⟩
theorem enumI_mem {j : Nat} : ∀ (n k : Nat) {st st' : SS} {m : Nat}, enumI j n k st = some (st', m) → st'.mem = st.mem ∧ ∀ t ∈ st.tr, t ∈ st'.tr
  | 0, _, _, _, _, h => by simp [enumI] at h
  | n + 1, k, st, st', m, h => by
    unfold enumI at h
    split at h
    · simp only [Option.some.injEq, Prod.mk.injEq] at h; obtain ⟨rfl, _⟩ := h
      exact ⟨rfl, fun t ht => List.mem_cons_of_mem _ ht⟩
    · have := enumI_mem n (k + 1) h
      exact ⟨this.1, fun t ht => this.2 t (List.mem_cons_of_mem _ ht)⟩
    · simp at h
theorem enumI_sound {D : Dom} {j : Nat} {V : VE D} : ∀ (n k : Nat) {st st' : SS} {m : Nat}, enumI j n k st = some (st', m) → (∀ t ∈ st'.tr, t.holds V) → V.it j = (m : Int) ∧ k ≤ m ∧ m < k + n
  | 0, _, _, _, _, h, _ => by simp [enumI] at h
  | n + 1, k, st, st', m, h, hh => by
    unfold enumI at h
    split at h
    · simp only [Option.some.injEq, Prod.mk.injEq] at h; obtain ⟨rfl, rfl⟩ := h
      have h1 : (V.it j == ((k : Nat) : Int)) = true := hh (.cmp .eql (.var j) (.lit (.ofNat k)) true) (by simp)
      exact ⟨by simpa using h1, Nat.le_refl _, by omega⟩
    · have := enumI_sound n (k + 1) h hh
      exact ⟨this.1, by omega, by omega⟩
    · simp at h
theorem pureOp_mem {C : Ctx} {T : TM} {st : SS} {o : Oper} {st' : SS} {v : SV} (h : pureOp C T st o = some (st', v)) : st'.mem = st.mem ∧ ∀ t ∈ st.tr, t ∈ st'.tr := by
  have triv : ∀ {x : Option SV} , (x.map fun v => (st, v)) = some (st', v) → st'.mem = st.mem ∧ ∀ t ∈ st.tr, t ∈ st'.tr := by
    intro x hx
    cases x with
    | none => simp at hx
    | some y => simp only [Option.map_some, Option.some.injEq, Prod.mk.injEq] at hx; obtain ⟨rfl, _⟩ := hx; exact ⟨rfl, fun _ h => h⟩
  have one : ∀ {y : SV}, some (st, y) = some (st', v) → st'.mem = st.mem ∧ ∀ t ∈ st.tr, t ∈ st'.tr := by
    intro y hx
    simp only [Option.some.injEq, Prod.mk.injEq] at hx; obtain ⟨rfl, _⟩ := hx; exact ⟨rfl, fun _ h => h⟩
  unfold pureOp at h
  split at h
  · exact triv h
  · exact triv h
  · unfold pNil at h
    split at h
    · exact one h
    · simp at h
  · unfold pField at h
    split at h
    · split at h
      · exact one h
      · simp at h
    · simp at h
  · unfold pIndex at h
    split at h
    · split at h
      · split at h
        · exact one h
        · simp at h
      · simp at h
    · split at h
      · split at h
        · rename_i he
          simp only [Option.some.injEq, Prod.mk.injEq] at h; obtain ⟨rfl, _⟩ := h
          exact enumI_mem _ _ he
        · simp at h
      · simp at h
    · simp at h
  · unfold pExtract at h
    split at h
    · rename_i i _ _ l _
      cases hq : l[i]? with
      | none => simp [hq] at h
      | some y => exact one (by simpa [hq] using h)
    · simp at h
  · unfold pPick at h
    split at h
    · exact triv h
    · exact triv h
    · simp at h
  · unfold pBin at h
    split at h
    · exact intOp_mem h
    · simp at h
  · unfold pNot at h
    split at h
    · exact one h
    · simp at h
  · unfold pNeg at h
    split at h
    · rename_i k a _
      simp only [Option.some.injEq] at h
      have := intA_mem st .sub k (.lit 0) a
      rw [h] at this; exact this
    · simp at h
  · unfold pXor at h
    split at h
    · rename_i k a _
      simp only [Option.some.injEq] at h
      have := intA_mem st .xor k (.lit (if k.signed then -1 else k.max)) a
      rw [h] at this; exact this
    · simp at h
  · unfold pConv at h
    split at h
    · split at h
      · exact one h
      · simp only [Option.some.injEq, Prod.mk.injEq] at h; obtain ⟨rfl, _⟩ := h; exact ⟨rfl, fun t ht => by simp [ht]⟩
      · simp at h
    · simp at h
  · unfold pBuild at h
    split at h
    · split at h
      · exact one h
      · simp at h
    · simp at h
  · unfold pCall at h
    split at h
    · unfold pExt at h
      split at h
      · split at h
        · split at h
          · exact one h
          · simp only [Option.some.injEq, Prod.mk.injEq] at h; obtain ⟨rfl, _⟩ := h; exact ⟨rfl, fun t ht => by simp [ht]⟩
        · simp at h
      · simp at h
    · unfold pMnmx at h
      split at h
      · exact mnmx_mem h
      · simp at h
    · unfold pMnmx at h
      split at h
      · exact mnmx_mem h
      · simp at h
    · simp at h
  · unfold pArr at h
    split at h
    · split at h
      · split at h
        · exact one h
        · simp at h
      · simp at h
    · simp at h
  · simp at h
theorem run_sizeOf {t : TypeId} {s : Nat} (h : (P.info? t).map (·.size) = some s) (w : World) : (sizeOf t).run P w = .ok s w := by
  cases hq : P.info? t with
  | none => simp [hq] at h
  | some i => simp [hq] at h; simp [sizeOf, typeInfo, hq, h]
structure CtxOk (P : Program) (D : Dom) (C : Ctx) : Prop where
  ty : ∀ t i, lk C.ty t = some i → TyOk P t i
  fn : ∀ f g, lk C.fn f = some g → P.funcs[f]? = some g ∧ g.name ≠ "runtime.NumGoroutine"
  ex : ∀ f k as rs, lk C.ex f = some (k, as, rs) → ∀ ns : List Int, ns.length = as.length → D.pfn k ns → (D.pf k ns).length = rs.length ∧ ∀ w, (callFunc f (zipI as ns).toArray).run P w = .ok (.value (mkVal (zipI rs (D.pf k ns)))) w
  fd : ∀ k ns ys, C.fd k ns = some ys → D.pfn k ns ∧ D.pf k ns = ys
theorem SC.one_is {V : VE D} {B : Bs} {x : SC} {u : Value} (h : x.one = true) (hu : x.is V B u) : u.oneCell' = true := by
  cases x with
  | lit v => have : u = v := hu; subst this; exact h
  | iv k i => have : u = _ := hu; subst this; rfl
  | wd e i => have : u = _ := hu; subst this; rfl
  | ptr r k => obtain ⟨_, _, _, e⟩ := hu; subst e; rfl
  | slc r k => obtain ⟨_, _, _, e⟩ := hu; subst e; rfl
  | ifp t r k => obtain ⟨_, _, _, e⟩ := hu; subst e; rfl
  | gc q g t r k => obtain ⟨_, _, _, _, e⟩ := hu; subst e; rfl
theorem LIs.one {V : VE D} {B : Bs} : ∀ {l : List SC} {m : List Value}, LIs V B l m → l.all SC.one = true → m.all Value.oneCell' = true
  | [], [], _, _ => rfl
  | x :: l, u :: m, h, ho => by
    simp only [List.all_cons, Bool.and_eq_true] at ho ⊢
    exact ⟨SC.one_is ho.1 h.1, LIs.one h.2 ho.2⟩
  | [], _ :: _, h, _ => h.elim
  | _ :: _, [], h, _ => h.elim
/-- a value that is stored: its cells -/
theorem cellsOf_is {V : VE D} {B : Bs} {v : SV} {cs : List SC} (h : cellsOf v = some cs) {u : Value} (hu : v.is V B u) :
    ∃ vs, LIs V B cs vs ∧ vs.all Value.oneCell' = true ∧ u.cells = vs.toArray ∧ (u = .agg vs.toArray ∨ u.oneCell' = true ∧ vs = [u]) := by
  unfold cellsOf at h
  split at h
  · split at h
    · rename_i l ho
      simp only [Option.some.injEq] at h; subst h
      obtain ⟨vs, hl, e⟩ := hu
      exact ⟨vs, hl, hl.one ho, by rw [e]; rfl, .inl e⟩
    · simp at h
  · split at h
    · rename_i x ho
      simp only [Option.some.injEq] at h; subst h
      have h1 := SC.one_is ho hu
      refine ⟨[u], ⟨hu, trivial⟩, by simp [h1], ?_, .inr ⟨h1, rfl⟩⟩
      cases u <;> first | rfl | (simp [Value.oneCell'] at h1)
    · simp at h
  · simp at h
theorem foldl_set (cs : Array Value) (off : Nat) : ∀ (vs : List Value) (k : Nat), off + k + vs.length ≤ cs.size →
    ((vs.zipIdx k).foldl (fun (cs : Array Value) (c : Value × Nat) => cs.setIfInBounds (off + c.2) c.1) cs).toList = cs.toList.take (off + k) ++ vs ++ cs.toList.drop (off + k + vs.length)
  | [], k, h => by simp
  | v :: r, k, h => by
    simp only [List.length_cons] at h
    simp only [List.zipIdx_cons, List.foldl_cons]
    rw [foldl_set (cs.setIfInBounds (off + k) v) off r (k + 1) (by simp; omega)]
    have hl : off + k < cs.toList.length := by simp; omega
    simp only [Array.toList_setIfInBounds]
    have e1 : (cs.toList.set (off + k) v).take (off + (k + 1)) = cs.toList.take (off + k) ++ [v] := by
      rw [show off + (k + 1) = off + k + 1 by omega, List.take_set, List.take_add_one, List.getElem?_eq_getElem hl, Option.toList_some, List.set_append_right _ _ (by simp; omega)]
      have hl' : off + k ≤ cs.size := by omega
      simp [Nat.min_eq_left hl']
    have e2 : (cs.toList.set (off + k) v).drop (off + (k + 1) + r.length) = cs.toList.drop (off + k + (r.length + 1)) := by
      rw [List.drop_set_of_lt (by omega)]
      congr 1; omega
    rw [e1, e2]
    simp [List.append_assoc]
theorem fillS_sound {V : VE D} {B : Bs} {N : Nat} {T : TM} {a : Act} (ha : TOK V B N T a) {i : TyI} {places : Nat → Option (Nat × Nat)} (hpl : ∀ k p, placeS i k = some p → places k = some p) :
    ∀ (parts : List (Nat × Operand)) {cs0 cs : List SC} {arr : Array Value}, LIs V B cs0 arr.toList → fillS i T cs0 parts = some cs → ∃ arr', Instr.fill places arr (parts.map fun p => (p.1, a.eval p.2)) = some arr' ∧ LIs V B cs arr'.toList
  | [], cs0, cs, arr, hl, h => by simp only [fillS, Option.some.injEq] at h; subst h; exact ⟨arr, rfl, hl⟩
  | (k, x) :: r, cs0, cs, arr, hl, h => by
    unfold fillS at h
    split at h
    · rename_i off sz vs hp hv
      split at h
      · rename_i hc
        obtain ⟨y, hy, hcs⟩ := Option.bind_eq_some_iff.1 hv
        obtain ⟨us, hus, _, hcells, _⟩ := cellsOf_is hcs (ha.opnd hy)
        have hlen := hus.length
        have hlen0 := hl.length
        have hsz : us.length = sz := by omega
        have hle : off + us.length ≤ arr.size := by simp at hlen0; omega
        have hf := foldl_set arr off us 0 (by omega)
        simp only [Nat.add_zero] at hf
        have ht : us.toArray.zipIdx.foldl (fun (cs : Array Value) (c : Value × Nat) => cs.setIfInBounds (off + c.2) c.1) arr = (us.zipIdx.foldl (fun (cs : Array Value) (c : Value × Nat) => cs.setIfInBounds (off + c.2) c.1) arr) := by
          simp
        obtain ⟨arr', h1, h2⟩ := fillS_sound ha hpl r (arr := us.toArray.zipIdx.foldl (fun (cs : Array Value) (c : Value × Nat) => cs.setIfInBounds (off + c.2) c.1) arr) (by
          rw [ht, hf, ← hlen]
          exact ((hl.take off).append hus).append (hl.drop (off + us.length))) h
        refine ⟨arr', ?_, h2⟩
        simp only [List.map_cons, Instr.fill, hpl k _ hp, hcells]
        rw [if_neg]
        · exact h1
        · simp; omega
      · simp at h
    · simp at h
theorem run_places {w : World} : ∀ (fs : List Field) (g : Field → Nat), (∀ fd ∈ fs, (P.info? fd.type).map (·.size) = some (g fd)) → (fs.mapM (fun f => (do pure (f.offset, ← sizeOf f.type) : Sem (Nat × Nat)))).run P w = .ok (fs.map fun f => (f.offset, g f)) w
  | [], g, _ => by simp
  | f :: r, g, h => by
    have h1 := h f (by simp)
    have ih := run_places (w := w) r g (fun fd hfd => h fd (by simp [hfd]))
    simp only [List.mapM_cons, Sem.run_bind, run_sizeOf h1, Result.andThen_ok, Sem.run_pure, ih, List.map_cons]
theorem execOp_call_bi (a : Act) (b : Builtin) (dst : Option Tmp) (xs : Array Operand) (ats : Array TypeId) (ty : TypeId) (pos : String) (after : Array Edge) (guard : Option (Nat × Bool)) :
    execOp a.eval { dst, op := .call { callee := .builtin b, args := xs, argTypes := ats }, type := ty, pos, after, guard } = builtin b ats ty (xs.map fun | .const _ => true | _ => false) (xs.map a.eval) := rfl
theorem pureOp_sound {C : Ctx} (hC : CtxOk P D C) {T : TM} {st : SS} {o : Oper} {st' : SS} {v : SV} (h : pureOp C T st o = some (st', v)) {V : VE D} {B : Bs} {N : Nat} (hh : ∀ t ∈ st'.tr, t.holds V) {a : Act} (ha : TOK V B N T a) :
    ∃ u, v.is V B u ∧ ∀ w, (execOp a.eval o).run P w = .ok (.value u) w := by
  obtain ⟨dst, op, type, pos, after, guard⟩ := o
  unfold pureOp at h
  dsimp only at h
  split at h
  · rename_i x
    cases hx : opnd T x with
    | none => simp [hx] at h
    | some y =>
      simp only [hx, Option.map_some, Option.some.injEq, Prod.mk.injEq] at h; obtain ⟨_, rfl⟩ := h
      exact ⟨_, ha.opnd hx, fun w => rfl⟩
  · rename_i x
    cases hx : opnd T x with
    | none => simp [hx] at h
    | some y =>
      simp only [hx, Option.map_some, Option.some.injEq, Prod.mk.injEq] at h; obtain ⟨_, rfl⟩ := h
      exact ⟨_, ha.opnd hx, fun w => rfl⟩
  · rename_i x
    unfold pNil at h
    split at h
    · rename_i r k hx
      simp only [Option.some.injEq, Prod.mk.injEq] at h; obtain ⟨_, rfl⟩ := h
      have hv := ha.opnd hx
      obtain ⟨b, o', hb, hu⟩ := hv
      exact ⟨_, ⟨b, o', hb, rfl⟩, fun w => by simp [execOp, hu]⟩
    · simp at h
  · rename_i s x f
    unfold pField at h
    split at h
    · rename_i r k i hx hs
      split at h
      · rename_i off sz hf
        simp only [Option.some.injEq, Prod.mk.injEq] at h; obtain ⟨_, rfl⟩ := h
        obtain ⟨b, o', hb, hu⟩ := ha.opnd hx
        obtain ⟨d, hd, _, _, _, hfl⟩ := (hC.ty s i hs).desc
        obtain ⟨fs, fd, rfl, hfd, rfl, hsz, hne⟩ := hfl f off sz hf
        refine ⟨.pointer (some ⟨b, o' + (k + fd.offset), none⟩), ⟨b, o', hb, rfl⟩, fun w => ?_⟩
        have e : (⟨b, o' + k, none⟩ : Addr).add fd.offset = ⟨b, o' + (k + fd.offset), none⟩ := by rw [Addr.add_mid, Nat.add_assoc]
        simp [execOp, Instr.fieldAt, run_underlying hd, hfd, hu, Instr.sureAddr, fieldPlace, run_sizeOf hsz, hne, e]
      · simp at h
    · simp at h
  · rename_i t x ix
    unfold pIndex at h
    split at h
    · rename_i r k ki n i hx hix hs
      split at h
      · rename_i len sz harr
        split at h
        · rename_i hn
          simp only [Option.some.injEq, Prod.mk.injEq] at h; obtain ⟨_, rfl⟩ := h
          obtain ⟨b, o', hb, hu⟩ := ha.opnd hx
          have hi : a.eval ix = .int ki n := ha.opnd hix
          obtain ⟨d, hd, _, _, har, _⟩ := (hC.ty t i hs).desc
          obtain ⟨h1, e, rfl, hsz⟩ := har len sz harr
          refine ⟨.pointer (some ⟨b, o' + (k + n.toNat * sz), none⟩), ⟨b, o', hb, rfl⟩, fun w => ?_⟩
          have e : (⟨b, o' + k, none⟩ : Addr).add (n.toNat * sz) = ⟨b, o' + (k + n.toNat * sz), none⟩ := by rw [Addr.add_mid, Nat.add_assoc]
          simp [execOp, Instr.indexAt, run_underlying hd, hu, hi, Instr.sureAddr, asIntOf, run_sizeOf hsz, hn, e]
        · simp at h
      · simp at h
    · rename_i r k ki j i hx hix hs
      split at h
      · rename_i len sz harr
        split at h
        · rename_i st1 m he
          simp only [Option.some.injEq, Prod.mk.injEq] at h; obtain ⟨rfl, rfl⟩ := h
          obtain ⟨hj, _, hm⟩ := enumI_sound _ _ he hh
          obtain ⟨b, o', hb, hu⟩ := ha.opnd hx
          have hi : a.eval ix = .int ki (V.it j) := ha.opnd hix
          rw [hj] at hi
          obtain ⟨d, hd, _, _, har, _⟩ := (hC.ty t i hs).desc
          obtain ⟨h1, e, rfl, hsz⟩ := har len sz harr
          refine ⟨.pointer (some ⟨b, o' + (k + m * sz), none⟩), ⟨b, o', hb, rfl⟩, fun w => ?_⟩
          have e : (⟨b, o' + k, none⟩ : Addr).add (m * sz) = ⟨b, o' + (k + m * sz), none⟩ := by rw [Addr.add_mid, Nat.add_assoc]
          have hn : 0 ≤ (m : Int) ∧ (m : Int) < len := by omega
          simp [execOp, Instr.indexAt, run_underlying hd, hu, hi, Instr.sureAddr, asIntOf, run_sizeOf hsz, e]
          intro hge
          omega
        · simp at h
      · simp at h
    · simp at h
  · rename_i x i
    unfold pExtract at h
    split at h
    · rename_i l hx
      cases hq : l[i]? with
      | none => simp [hq] at h
      | some y =>
        simp only [hq, Option.map_some, Option.some.injEq, Prod.mk.injEq] at h; obtain ⟨_, rfl⟩ := h
        obtain ⟨vs, hl, hu⟩ := ha.opnd hx
        obtain ⟨u, h1, h2⟩ := hl.get hq
        exact ⟨u, h2, fun w => by simp [execOp, Instr.extract, hu, h1]⟩
    · simp at h
  · rename_i c x y
    unfold pPick at h
    split at h
    · rename_i hc
      have hcv : a.eval c = .bool true := ha.opnd hc
      cases hx : opnd T x with
      | none => simp [hx] at h
      | some z =>
        simp only [hx, Option.map_some, Option.some.injEq, Prod.mk.injEq] at h; obtain ⟨_, rfl⟩ := h
        exact ⟨_, ha.opnd hx, fun w => by simp [execOp, hcv, asBool]⟩
    · rename_i hc
      have hcv : a.eval c = .bool false := ha.opnd hc
      cases hx : opnd T y with
      | none => simp [hx] at h
      | some z =>
        simp only [hx, Option.map_some, Option.some.injEq, Prod.mk.injEq] at h; obtain ⟨_, rfl⟩ := h
        exact ⟨_, ha.opnd hx, fun w => by simp [execOp, hcv, asBool]⟩
    · simp at h
  · rename_i op t x y t'
    unfold pBin at h
    split at h
    · rename_i p q hx hy
      obtain ⟨u, h1, h2⟩ := intOp_sound (P := P) h hh (ha.opnd hx) (ha.opnd hy) t x y
      exact ⟨u, h1, fun w => by simp [execOp, (h2 w).1, (h2 w).2]⟩
    · simp at h
  · rename_i t x
    unfold pNot at h
    split at h
    · rename_i b hx
      simp only [Option.some.injEq, Prod.mk.injEq] at h; obtain ⟨_, rfl⟩ := h
      have hv : a.eval x = .bool b := ha.opnd hx
      exact ⟨_, rfl, fun w => by simp [execOp, Op.unary, hv]⟩
    · simp at h
  · rename_i t x
    unfold pNeg at h
    split at h
    · rename_i k e hx
      simp only [Option.some.injEq] at h
      obtain ⟨y, hy, he⟩ := Option.bind_eq_some_iff.1 hx
      have hv := ieOf_is he (ha.opnd hy)
      have hs := intA_sound (st := st) (op := .sub) (k := k) (a := .lit 0) (b := e) (V := V) (B := B) (by rw [h]; exact hh)
      rw [h] at hs
      exact ⟨_, hs, fun w => by simp [execOp, Op.unary, hv, Op.intArith, ibinF, IE.den]⟩
    · simp at h
  · rename_i t x
    unfold pXor at h
    split at h
    · rename_i k e hx
      simp only [Option.some.injEq] at h
      obtain ⟨y, hy, he⟩ := Option.bind_eq_some_iff.1 hx
      have hv := ieOf_is he (ha.opnd hy)
      have hs := intA_sound (st := st) (op := .xor) (k := k) (a := .lit (if k.signed then -1 else k.max)) (b := e) (V := V) (B := B) (by rw [h]; exact hh)
      rw [h] at hs
      exact ⟨_, hs, fun w => by simp [execOp, Op.unary, hv, Op.intBits, ibinF, IE.den]⟩
    · simp at h
  · rename_i src dst' x
    unfold pConv at h
    split at h
    · rename_i v' i i' hx hs hs'
      obtain ⟨d, hd, _, hik, _, _⟩ := (hC.ty dst' i hs).desc
      obtain ⟨d', hd', _⟩ := (hC.ty src i' hs').desc
      have hrun : ∀ k k' n w, i.ik = some k → a.eval x = .int k' n → (convert src dst' (a.eval x)).run P w = .ok (.int k (k.wrap n)) w := by
        intro k k' n w hk hx'
        have := hik k hk
        subst this
        rw [hx']
        simp [convert, run_underlying hd, run_underlying hd', Conv.intToInt]
      split at h
      · rename_i k k' n hk hv
        simp only [Option.some.injEq, Prod.mk.injEq] at h; obtain ⟨_, rfl⟩ := h
        have e := ieOf_is hv (ha.opnd hx)
        exact ⟨_, rfl, fun w => by simp [execOp, hrun k k' n w hk e]⟩
      · rename_i k k' j hk hv
        simp only [Option.some.injEq, Prod.mk.injEq] at h; obtain ⟨rfl, rfl⟩ := h
        have e := ieOf_is hv (ha.opnd hx)
        have := hh (.ibin st.ni .add k (.var j) (.lit 0)) (by simp)
        have this : V.it st.ni = k.wrap (V.it j + 0) := this
        refine ⟨.int k (V.it st.ni), rfl, fun w => ?_⟩
        rw [this, Int.add_zero]
        simp [execOp, hrun k k' _ w hk e]; rfl
      · simp at h
    · simp at h
  · rename_i t parts
    unfold pBuild at h
    split at h
    · rename_i i hi
      split at h
      · rename_i cs hf hcs
        simp only [Option.some.injEq, Prod.mk.injEq] at h; obtain ⟨_, rfl⟩ := h
        simp only [Bool.and_eq_true] at hf
        obtain ⟨d, hd, hrow, _, har, hfl⟩ := (hC.ty t i hi).desc
        obtain ⟨z, hz, hzc⟩ := (hC.ty t i hi).zero
        have hzl : LIs V B (i.zero.map SC.lit) z.cells.toList := by rw [hzc]; exact LIs.lits V B i.zero
        have hzr : ∀ w, (zeroValue t).run P w = .ok z w := by
          intro w
          cases hq : P.info? t with
          | none => simp [hq] at hz
          | some q => simp [hq] at hz; simp [zeroValue, typeInfo, hq, hz]
        cases ha2 : i.arr with
        | some p =>
          obtain ⟨n, sz⟩ := p
          obtain ⟨_, e, rfl, hsz⟩ := har n sz ha2
          obtain ⟨arr', h1, h2⟩ := fillS_sound ha (i := i) (places := fun k => some (k * sz, sz)) (fun k p hp => by unfold placeS at hp; rw [ha2] at hp; exact hp) parts.toList hzl hcs
          refine ⟨.agg arr', ⟨arr'.toList, h2, by simp⟩, fun w => ?_⟩
          simp [execOp, Instr.build, hzr, run_underlying hd, run_sizeOf hsz, h1]
        | none =>
          have hall : (i.fields.isEmpty = false ∨ i.kd = 7) ∧ i.fields.all Option.isSome = true := by
            have := hf.2
            unfold fullF at this
            rw [ha2] at this
            simp only [Option.isSome_none, Bool.false_or, Bool.and_eq_true, Bool.or_eq_true, Bool.not_eq_true'] at this
            exact ⟨this.1.imp id Nat.eq_of_beq_eq_true, this.2⟩
          have hget : ∀ k, k < i.fields.length → ∃ p, i.fields[k]? = some (some p) := by
            intro k hk
            have h1 := List.all_eq_true.1 hall.2 i.fields[k] (List.getElem_mem hk)
            obtain ⟨p, hp⟩ := Option.isSome_iff_exists.1 h1
            exact ⟨p, by rw [List.getElem?_eq_getElem hk, hp]⟩
          obtain ⟨fs, rfl⟩ : ∃ fs, d = .struct fs := by
            rcases hall.1 with hne | hkd
            case inr =>
              have := (hC.ty t i hi).kd d hd
              rw [hkd] at this
              cases d <;> first | exact ⟨_, rfl⟩ | simp [kdOf] at this
            have h0 : 0 < i.fields.length := by
              rcases hq : i.fields with _ | ⟨x, l⟩
              · rw [hq] at hne; simp at hne
              · simp
            obtain ⟨⟨o1, s1⟩, hp⟩ := hget 0 h0
            obtain ⟨fs, _, e, _⟩ := hfl 0 o1 s1 hp
            exact ⟨fs, e⟩
          have hcnt := (hC.ty t i hi).cnt fs hd
          obtain ⟨fl, rfl⟩ : ∃ fl : List Field, fs = fl.toArray := ⟨fs.toList, by simp⟩
          have hfd : ∀ (k : Nat) (fd : Field), fl[k]? = some fd → ∃ s1, (P.info? fd.type).map (·.size) = some s1 ∧ i.fields[k]? = some (some (fd.offset, s1)) := by
            intro k fd hk
            have hlt : k < fl.length := (List.getElem?_eq_some_iff.1 hk).1
            obtain ⟨⟨o1, s1⟩, hp⟩ := hget k (by rw [hcnt]; simpa using hlt)
            obtain ⟨fs', fd', e, h1, h2, h3, _⟩ := hfl k o1 s1 hp
            simp only [TypeDesc.struct.injEq] at e
            subst e
            have : fd' = fd := by
              have h4 : fl[k]? = some fd' := by simpa using h1
              rw [hk] at h4; simpa using h4.symm
            subst this
            exact ⟨s1, h3, by rw [hp, h2]⟩
          have hg : ∀ fd ∈ fl, (P.info? fd.type).map (·.size) = some (((P.info? fd.type).map (·.size)).getD 0) := by
            intro fd hm
            obtain ⟨k, hk⟩ := List.getElem?_of_mem hm
            obtain ⟨s1, h1, _⟩ := hfd k fd hk
            rw [h1]; rfl
          have hplaces := fun w => run_places (P := P) (w := w) fl _ hg
          obtain ⟨arr', h1, h2⟩ := fillS_sound ha (i := i) (places := fun k => (fl.map fun f => (f.offset, ((P.info? f.type).map (·.size)).getD 0)).toArray[k]?) (fun k p hp => by
            unfold placeS at hp; rw [ha2] at hp; dsimp only at hp
            split at hp
            · rename_i p' hk
              simp only [Option.some.injEq] at hp; subst hp
              have hlt : k < fl.length := by
                have := (List.getElem?_eq_some_iff.1 hk).1
                rw [hcnt] at this; simpa using this
              obtain ⟨s1, h3, h4⟩ := hfd k fl[k] (List.getElem?_eq_getElem hlt)
              rw [hk] at h4
              simp only [Option.some.injEq] at h4
              subst h4
              show (fl.map _).toArray[k]? = _
              rw [List.getElem?_toArray, List.getElem?_map, List.getElem?_eq_getElem hlt]
              simp [h3]
            · simp at hp) parts.toList hzl hcs
          refine ⟨.agg arr', ⟨arr'.toList, h2, by simp⟩, fun w => ?_⟩
          have hm : (fl.toArray.mapM (fun f => (do pure (f.offset, ← sizeOf f.type) : Sem (Nat × Nat)))).run P w = .ok (fl.map fun f => (f.offset, ((P.info? f.type).map (·.size)).getD 0)).toArray w := by
            rw [List.mapM_toArray]
            simp only [Sem.run_bind, map_eq_pure_bind, hplaces w, Result.andThen_ok, Sem.run_pure]
          show ((do pure (Next.value (← Instr.build t (parts.map fun (i, x) => (i, a.eval x))))) : Sem Next).run P w = _
          unfold Instr.build
          simp only [Sem.run_bind, hzr, Result.andThen_ok, run_underlying hd, hm, Array.toList_map, h1, Sem.run_pure]
      · simp at h
    · simp at h
  · rename_i c
    unfold pCall at h
    split at h
    · rename_i f hcal
      unfold pExt at h
      split at h
      · rename_i k as rs vs hk hvs
        split at h
        · rename_i xs hxs
          obtain ⟨callee, args, ats⟩ := c
          simp only at hcal hvs
          subst hcal
          obtain ⟨hus, hlen⟩ := ies_is hxs (opnds_is ha hvs)
          have e : #[] ++ args.map a.eval ++ #[] = (args.toList.map a.eval).toArray := by
            rw [Array.empty_append, Array.append_empty]; exact (Array.toArray_toList (xs := args.map a.eval)).symm.trans (by rw [Array.toList_map])
          split at h
          · rename_i ys hys
            simp only [Option.some.injEq, Prod.mk.injEq] at h; obtain ⟨rfl, rfl⟩ := h
            obtain ⟨ns, h1, h2⟩ := Option.bind_eq_some_iff.1 hys
            have hden := litsI_den (V := V) h1
            rw [hden] at hus hlen
            obtain ⟨hdom, hval⟩ := hC.fd _ _ _ h2
            obtain ⟨hl, hrun⟩ := hC.ex f k as rs hk ns hlen hdom
            refine ⟨_, mkSV_is (litInts_is rs ys), fun w => ?_⟩
            rw [execOp_call_go, e, hus, ← hval]
            exact hrun w
          · simp only [Option.some.injEq, Prod.mk.injEq] at h; obtain ⟨rfl, rfl⟩ := h
            have hd : D.pfn k (xs.map (·.den V)) ∧ _ := hh (.pf st.ni rs.length k xs) (by simp)
            obtain ⟨hdom, hval⟩ := hd
            obtain ⟨hl, hrun⟩ := hC.ex f k as rs hk (xs.map (·.den V)) hlen hdom
            refine ⟨_, mkSV_is (newInts_is rs st.ni _ hval), fun w => ?_⟩
            rw [execOp_call_go, e, hus]
            exact hrun w
        · simp at h
      · simp at h
    · rename_i hcal
      unfold pMnmx at h
      split at h
      · rename_i x y hvs
        obtain ⟨callee, args, ats⟩ := c
        simp only at hcal hvs
        subst hcal
        have hus := opnds_is ha hvs
        generalize hul : args.toList.map a.eval = us at hus
        match us, hus with
        | [u1, u2], ⟨hu1, hu2, _⟩ =>
          obtain ⟨k, m, n, rfl, rfl, hv⟩ := mnmx_sound h hh hu1 hu2
          refine ⟨_, hv, fun w => ?_⟩
          have hargs : args.map a.eval = #[.int k m, .int k n] := by
            apply Array.toList_inj.1; rw [Array.toList_map, hul]
          simp [execOp_call_bi, hargs, builtin, Builtin.min_, Builtin.min2, cmpF]
      · simp at h
    · rename_i hcal
      unfold pMnmx at h
      split at h
      · rename_i x y hvs
        obtain ⟨callee, args, ats⟩ := c
        simp only at hcal hvs
        subst hcal
        have hus := opnds_is ha hvs
        generalize hul : args.toList.map a.eval = us at hus
        match us, hus with
        | [u1, u2], ⟨hu1, hu2, _⟩ =>
          obtain ⟨k, m, n, rfl, rfl, hv⟩ := mnmx_sound h hh hu1 hu2
          refine ⟨_, hv, fun w => ?_⟩
          have hargs : args.map a.eval = #[.int k m, .int k n] := by
            apply Array.toList_inj.1; rw [Array.toList_map, hul]
          simp [execOp_call_bi, hargs, builtin, Builtin.max_, Builtin.max2, cmpF]
      · simp at h
    · simp at h
  · rename_i t x
    unfold pArr at h
    split at h
    · rename_i r off len cap i hx hs
      split at h
      · rename_i n sz harr
        split at h
        · rename_i hle
          have hle := Nat.le_of_ble_eq_true hle
          simp only [Option.some.injEq, Prod.mk.injEq] at h; obtain ⟨_, rfl⟩ := h
          obtain ⟨b, o', hb, hu⟩ := ha.opnd hx
          obtain ⟨d, hd, _, _, har, _⟩ := (hC.ty t i hs).desc
          obtain ⟨_, e, rfl, _⟩ := har n sz harr
          refine ⟨_, ⟨b, o', hb, rfl⟩, fun w => ?_⟩
          have hn : ¬ (len < n) := by omega
          simp [execOp, Instr.arrayAt, run_underlying hd, hu, hn]
        · simp at h
      · simp at h
    · simp at h
  · simp at h
end
end Go.Proofs.YtnmkmbjbaagojaaGreatDoor
