/- A part of the proof of laws.FnPairUneven. -/
import Derived.Test.YtnmkmbjbaagojaaGreatDoorK02
import Derived.Laws.MakeOwn
namespace Go.Proofs.YtnmkmbjbaagojaaGreatDoor
open Go
set_option maxRecDepth 100000
set_option linter.unusedVariables false
set_option linter.unusedSimpArgs false
abbrev CallF := Nat → List SV → SS → Option (SS × SV)
def mAlloc (C : Ctx) (st : SS) (t : Nat) : Option (SS × SV) :=
  match lk C.ty t with
  | some i => some ({ st with mem := st.mem ++ [(true, i.zero.map SC.lit)] }, .a (.c (.ptr st.mem.length 0)))
  | none => none
def mBox (T : TM) (st : SS) (x : Operand) : Option (SS × SV) :=
  match opnd T x with
  | some v => match cellsOf v with
    | some cs => some ({ st with mem := st.mem ++ [(true, cs)] }, .a (.c (.ptr st.mem.length 0)))
    | none => none
  | none => none
def mLoad (C : Ctx) (T : TM) (st : SS) (t : Nat) (x : Operand) : Option (SS × SV) :=
  match lk C.ty t, opnd T x with
  | some i, some (.a (.c (.ptr r k))) => match i.row with
    | true => match getM st.mem r k i.size with
      | some cs => some (st, .a (.agg cs))
      | none => none
    | false => match getM st.mem r k 1 with
      | some [c] => some (st, .a (.c c))
      | _ => none
  | _, _ => none
def mStore (C : Ctx) (T : TM) (st : SS) (t : Nat) (x y : Operand) : Option (SS × SV) :=
  match lk C.ty t, opnd T x, opnd T y with
  | some i, some (.a (.c (.ptr r k))), some v => match cellsOf v with
    | some cs => if cs.length = i.size then match putM st.mem r k cs with
        | some m => some ({ st with mem := m }, litV undef)
        | none => none
      else none
    | none => none
  | _, _, _ => none
def mCall (call : CallF) (T : TM) (st : SS) (c : Call) : Option (SS × SV) :=
  match c.callee with
  | .value (.func f) => match opnds T c.args.toList with
    | some vs => call f vs st
    | none => none
  | _ => none
/-- an operation on the memory, or a call -/
def memOp (C : Ctx) (call : CallF) (T : TM) (st : SS) (o : Oper) : Option (SS × SV) :=
  match o.op with
  | .alloc t => mAlloc C st t
  | .box _ x => mBox T st x
  | .load t x => mLoad C T st t x
  | .store t x y => mStore C T st t x y
  | .call c => mCall call T st c
  | _ => none
section
variable {D : Dom} {P : Program}
/-- what a caller may lean on of the calls -/
structure CallOK (P : Program) (D : Dom) (call : CallF) : Prop where
  fn : ∀ f vs st st' v, call f vs st = some (st', v) → ∃ g, P.funcs[f]? = some g ∧ g.name ≠ "runtime.NumGoroutine" ∧ g.body.isSome = true
  tr : ∀ f vs st st' v, call f vs st = some (st', v) → ∀ t ∈ st.tr, t ∈ st'.tr
  sound : ∀ f vs st st' v, call f vs st = some (st', v) → ∀ (S : Nat → Nat → Prop) (w0 : World) (V : VE D) (B : Bs) (w : World) (us : List Value), Rep S w0 V B st w → SVs V B vs us →
    (∀ t ∈ st'.tr, t.holds V) → Calls P f us.toArray w fun e w' => ∃ u X, e = .returned u ∧ Rep S w0 V (B ++ X) st' w' ∧ v.is V (B ++ X) u
theorem memOp_tr {C : Ctx} {call : CallF} (hcall : CallOK P D call) {T : TM} {st : SS} {o : Oper} {st' : SS} {v : SV} (h : memOp C call T st o = some (st', v)) : ∀ t ∈ st.tr, t ∈ st'.tr := by
  unfold memOp at h
  split at h
  · unfold mAlloc at h
    split at h
    · simp only [Option.some.injEq, Prod.mk.injEq] at h; obtain ⟨rfl, _⟩ := h; exact fun _ h => h
    · simp at h
  · unfold mBox at h
    split at h
    · split at h
      · simp only [Option.some.injEq, Prod.mk.injEq] at h; obtain ⟨rfl, _⟩ := h; exact fun _ h => h
      · simp at h
    · simp at h
  · unfold mLoad at h
    split at h
    · split at h
      · split at h
        · simp only [Option.some.injEq, Prod.mk.injEq] at h; obtain ⟨rfl, _⟩ := h; exact fun _ h => h
        · simp at h
      · split at h
        · simp only [Option.some.injEq, Prod.mk.injEq] at h; obtain ⟨rfl, _⟩ := h; exact fun _ h => h
        · simp at h
    · simp at h
  · unfold mStore at h
    split at h
    · split at h
      · split at h
        · split at h
          · simp only [Option.some.injEq, Prod.mk.injEq] at h; obtain ⟨rfl, _⟩ := h; exact fun _ h => h
          · simp at h
        · simp at h
      · simp at h
    · simp at h
  · unfold mCall at h
    split at h
    · split at h
      · exact hcall.tr _ _ _ _ _ h
      · simp at h
    · simp at h
  · simp at h
theorem run_storeAt_one (w : World) (b o : Nat) (t : TypeId) (u : Value) (h1 : u.oneCell' = true) (hs : (P.info? t).map (·.size) = some 1) (hc : (w.cell? ⟨b, o, none⟩).isSome = true) (hf : w.frozen? ⟨b, o, none⟩ = false) :
    (Instr.storeAt t (.pointer (some ⟨b, o, none⟩)) u).run P w = .ok () (w.setCells b o [u]) := by
  have hcells : u.cells = #[u] := by cases u <;> first | rfl | (simp [Value.oneCell'] at h1)
  obtain ⟨z, hz⟩ := Option.isSome_iff_exists.mp hc
  have hrun := run_store P w ⟨b, o, none⟩ u .plain h1
  rw [hz] at hrun
  simp only [hf] at hrun
  have e : (⟨b, o, none⟩ : Addr).add 0 = ⟨b, o, none⟩ := rfl
  simp [Instr.storeAt, Instr.sureAddr, storeVar, hcells, run_sizeOf hs, storeCells, e, hrun, World.setCells]
theorem run_loadAt_one (w : World) (b o : Nat) (t : TypeId) (u : Value) (d : TypeDesc) (hd : P.underlying t = some d) (hr : d.isRow = false) (hc : w.cell? ⟨b, o, none⟩ = some u) :
    (Instr.loadAt t (.pointer (some ⟨b, o, none⟩))).run P w = .ok u w := by
  have hagg : (isAgg t).run P w = .ok false w := by
    unfold isAgg
    rw [Sem.run_bind, run_underlying hd w]
    cases d <;> simp_all
  simp [Instr.loadAt, Instr.sureAddr, loadVar, hagg, hc]
theorem Oper.wp_value {o : Oper} {a : Act} {w w' : World} {u : Value} {K : Act → World → Prop} {Q : Exit → Act → World → Prop} (h : (execOp a.eval o).run P w = .ok (.value u) w') (hk : K (a.put o.dst u) w') : o.wp P a w K Q := by
  unfold Oper.wp; rw [h]; exact hk
theorem Oper.wp_skip {o : Oper} {a : Act} {w w' : World} {K : Act → World → Prop} {Q : Exit → Act → World → Prop} (h : (execOp a.eval o).run P w = .ok .skip w') (hk : K (a.put o.dst undef) w') : o.wp P a w K Q := by
  unfold Oper.wp; rw [h]; exact hk
theorem memOp_sound {C : Ctx} (hC : CtxOk P D C) {call : CallF} (hcall : CallOK P D call) {T : TM} {st : SS} {o : Oper} {st' : SS} {v : SV} (h : memOp C call T st o = some (st', v))
    {S : Nat → Nat → Prop} {w0 : World} {V : VE D} {B : Bs} {N : Nat} {a : Act} {w : World} (hh : ∀ t ∈ st'.tr, t.holds V) (ha : TOK V B N T a) (hw : Rep S w0 V B st w)
    {K : Act → World → Prop} {Q : Exit → Act → World → Prop} (hK : ∀ X u w', Rep S w0 V (B ++ X) st' w' → v.is V (B ++ X) u → K (a.put o.dst u) w') : o.wp P a w K Q := by
  obtain ⟨dst, op, type, pos, after, guard⟩ := o
  unfold memOp at h
  dsimp only at h
  split at h
  · rename_i t
    unfold mAlloc at h
    split at h
    · rename_i i hi
      simp only [Option.some.injEq, Prod.mk.injEq] at h; obtain ⟨rfl, rfl⟩ := h
      obtain ⟨z, hz, hcells⟩ := (hC.ty t i hi).zero
      have hal := hw.alloc t (LIs.lits V B i.zero)
      have hzr : (zeroValue t).run P w = .ok z w := by
        cases hq : P.info? t with
        | none => simp [hq] at hz
        | some q => simp [hq] at hz; simp [zeroValue, typeInfo, hq, hz]
      refine Oper.wp_value (u := .pointer (some ⟨w.heap.size, 0, none⟩)) (w' := { w with heap := w.heap.push (.cells i.zero.toArray t) }) ?_ (hK _ _ _ hal ⟨w.heap.size, 0, ?_, rfl⟩)
      · simp [execOp, Instr.alloc, hzr, newVar, newRow, hcells]
      · rw [← hw.len, List.getElem?_append_right (Nat.le_refl _)]; simp
    · simp at h
  · rename_i t x
    unfold mBox at h
    split at h
    · rename_i v' hx
      split at h
      · rename_i cs hcs
        simp only [Option.some.injEq, Prod.mk.injEq] at h; obtain ⟨rfl, rfl⟩ := h
        obtain ⟨vs, hl, _, hcells, _⟩ := cellsOf_is hcs (ha.opnd hx)
        have hal := hw.alloc t hl
        refine Oper.wp_value (u := .pointer (some ⟨w.heap.size, 0, none⟩)) (w' := { w with heap := w.heap.push (.cells vs.toArray t) }) ?_ (hK _ _ _ hal ⟨w.heap.size, 0, ?_, rfl⟩)
        · simp [execOp, Instr.box, newVar, newRow, hcells]
        · rw [← hw.len, List.getElem?_append_right (Nat.le_refl _)]; simp
      · simp at h
    · simp at h
  · rename_i t x
    unfold mLoad at h
    split at h
    · rename_i i r k hi hx
      obtain ⟨d, hd, hrow, _⟩ := (hC.ty t i hi).desc
      split at h
      · rename_i hir
        split at h
        · rename_i cs hg
          simp only [Option.some.injEq, Prod.mk.injEq] at h; obtain ⟨rfl, rfl⟩ := h
          obtain ⟨b, o, vs, hB, hl, hc, hlen⟩ := hw.get hg
          obtain ⟨b', o', hB', hu⟩ := ha.opnd hx
          rw [hB] at hB'; simp only [Option.some.injEq, Prod.mk.injEq] at hB'; obtain ⟨rfl, rfl⟩ := hB'
          have hrun := run_loadAt_mid (P := P) w b (o + k) t vs d (fun j v hj => (hc j v hj).1) hd (by rw [hrow, hir]) (by rw [(hC.ty t i hi).size, hl.length, hlen])
          refine Oper.wp_value (u := .agg vs.toArray) (w' := w) ?_ (hK [] _ _ (by simpa using hw) ?_)
          · show ((do pure (Next.value (← Instr.loadAt t (a.eval x)))) : Sem Next).run P w = _
            rw [hu]; simp [hrun]
          · exact ⟨vs, by simpa using hl, rfl⟩
        · simp at h
      · rename_i hir
        split at h
        · rename_i c hg
          simp only [Option.some.injEq, Prod.mk.injEq] at h; obtain ⟨rfl, rfl⟩ := h
          obtain ⟨b, o, vs, hB, hl, hc, hlen⟩ := hw.get hg
          obtain ⟨b', o', hB', hu⟩ := ha.opnd hx
          rw [hB] at hB'; simp only [Option.some.injEq, Prod.mk.injEq] at hB'; obtain ⟨rfl, rfl⟩ := hB'
          match vs, hl with
          | [u], hl =>
            have hrun := run_loadAt_one (P := P) w b (o + k) t u d hd (by rw [hrow, hir]) (hc 0 u rfl).1
            refine Oper.wp_value (u := u) (w' := w) ?_ (hK [] _ _ (by simpa using hw) ?_)
            · show ((do pure (Next.value (← Instr.loadAt t (a.eval x)))) : Sem Next).run P w = _
              rw [hu]; simp [hrun]
            · exact SC.mono [] hl.1
        · simp at h
    · simp at h
  · rename_i t x y
    unfold mStore at h
    split at h
    · rename_i i r k v' hi hx hy
      split at h
      · rename_i cs hcs
        split at h
        · rename_i hlen
          split at h
          · rename_i m hp
            simp only [Option.some.injEq, Prod.mk.injEq] at h; obtain ⟨rfl, rfl⟩ := h
            obtain ⟨vs, hl, hone, hcells, hshape⟩ := cellsOf_is hcs (ha.opnd hy)
            obtain ⟨b, o, hB, hu⟩ := ha.opnd hx
            have hvl := hl.length
            have hsz : (P.info? t).map (·.size) = some vs.length := by rw [(hC.ty t i hi).size, hvl, hlen]
            -- the old cells
            have hg : ∃ cs0, getM st.mem r k cs.length = some cs0 := by
              unfold putM at hp
              split at hp
              · rename_i l hm
                split at hp
                · rename_i hle
                  exact ⟨_, by unfold getM; rw [hm]; simp [hle]; rfl⟩
                · simp at hp
              · simp at hp
            obtain ⟨cs0, hg⟩ := hg
            obtain ⟨b', o', us, hB', hl0, hc0, hlen0⟩ := hw.get hg
            rw [hB] at hB'; simp only [Option.some.injEq, Prod.mk.injEq] at hB'; obtain ⟨rfl, rfl⟩ := hB'
            have hul := hl0.length
            have hput := hw.put hp hB hl (hasC_setCells b vs us (o + k) w hc0 (by omega))
              (Keeps.setCells b vs (o + k) w (fun i hi => ⟨rfl, by omega, by omega⟩))
            have there : ∀ j, j < vs.length → (w.cell? ⟨b, o + k + j, none⟩).isSome = true ∧ w.frozen? ⟨b, o + k + j, none⟩ = false := by
              intro j hj
              obtain ⟨h1, h2⟩ := hc0 j us[j] (by simp)
              exact ⟨by rw [h1]; rfl, h2.frozen _⟩
            have hrun : (Instr.storeAt t (a.eval x) (a.eval y)).run P w = .ok () (w.setCells b (o + k) vs) := by
              rw [hu]
              rcases hshape with e | ⟨h1, e⟩
              · rw [e]
                have := run_storeAt_mid (P := P) w b (o + k) t vs.toArray (fun j hj => there j (by simpa using hj)) (by simpa using hsz) (by simpa using hone)
                simpa using this
              · rw [e] at hsz there ⊢
                exact run_storeAt_one w b (o + k) t _ h1 (by simpa using hsz) (there 0 (by simp)).1 (there 0 (by simp)).2
            refine Oper.wp_skip (w' := w.setCells b (o + k) vs) ?_ (hK [] _ _ (by simpa using hput) rfl)
            show ((do Instr.storeAt t (a.eval x) (a.eval y); pure Next.skip) : Sem Next).run P w = _
            simp [hrun]
          · simp at h
        · simp at h
      · simp at h
    · simp at h
  · rename_i c
    unfold mCall at h
    split at h
    · rename_i f hcal
      split at h
      · rename_i vs hvs
        obtain ⟨callee, args, ats⟩ := c
        simp only at hcal hvs
        subst hcal
        have hargs := opnds_is ha hvs
        obtain ⟨g, hg, hname, hbody⟩ := hcall.fn _ _ _ _ _ h
        have hcalls := hcall.sound _ _ _ _ _ h S w0 V B w _ hw hargs hh
        unfold Oper.wp
        rw [execOp_call_go]
        have e : #[] ++ args.map a.eval ++ #[] = (args.toList.map a.eval).toArray := by
          rw [Array.empty_append, Array.append_empty]; exact (Array.toArray_toList (xs := args.map a.eval)).symm.trans (by rw [Array.toList_map])
        rw [e]
        have hrun : (callFunc f (args.toList.map a.eval).toArray).run P w = .ok (.enter f (args.toList.map a.eval).toArray) w := by
          have hb' : g.body ≠ none := by intro e; rw [e] at hbody; simp at hbody
          simp [callFunc, program, hg, hname, hb', Sem.run]
        rw [hrun, Oper.upon_enter]
        refine hcalls.mono ?_
        rintro e w' ⟨u, X, rfl, hrep, hv⟩
        exact hK X u w' hrep hv
      · simp at h
    · simp at h
  · simp at h
end
/-! slices, interfaces, variables of packages -/
/-- a bound of a slice: a constant -/
def bndS (T : TM) (dflt : Nat) : Option Operand → Option Nat
  | none => some dflt
  | some x => match opnd T x with
    | some (.a (.c (.lit (.int _ (.ofNat n))))) => some n
    | _ => none
/-- a slice of a region, or of nothing: its address (if any), length, capacity -/
def slcV : SV → Option (Option (Nat × Nat) × Nat × Nat)
  | .a (.c (.slc r k n c)) => some (some (r, k), n, c)
  | .a (.c (.lit (.slice none n c))) => some (none, n, c)
  | _ => none
def mkSlc (p : Option (Nat × Nat)) (n c : Nat) : SV :=
  match p with
  | some (r, k) => .a (.c (.slc r k n c))
  | none => litV (.slice none n c)
def cutS (p : Option (Nat × Nat)) (l h m s : Nat) : SV :=
  mkSlc (match Nat.beq m l with | true => p | false => p.map fun q => (q.1, q.2 + l * s)) (h - l) (m - l)
def isConst : Operand → Bool
  | .const _ => true
  | _ => false
/-- whether two values are equal, where that can be told without the memory -/
def eqS (C : Ctx) (i : TyI) (cx : Bool) : SV → SV → Option Bool
  | .a (.c x), .a (.c y) => match i.kd, x, y with
    | 1, .lit (.bool a), .lit (.bool b) => some (a == b)
    | 4, .lit (.pointer none), .lit (.pointer none) => some true
    | 4, .lit (.pointer none), .ptr _ _ => some false
    | 4, .ptr _ _, .lit (.pointer none) => some false
    | 4, .ptr r o, .ptr r' o' => match i.pe, Nat.beq r r' with
      | some (_ + 1), true => some (Nat.beq o o')
      | _, _ => none
    | 5, .lit (.slice none _ _), .lit (.slice none _ _) => some true
    | 5, .lit (.slice none _ _), .slc _ _ _ _ => some false
    | 5, .slc _ _ _ _, .lit (.slice none _ _) => some false
    | 6, .lit .nilIface, .lit .nilIface => match cx with | true => some true | false => none
    | 6, .lit .nilIface, .ifp _ _ _ => some false
    | 6, .ifp _ _ _, .lit .nilIface => some false
    | 6, .ifp t r o, .ifp t' r' o' => match Nat.beq t t' with
      | true => match lk C.ty t with
        | some j => match Nat.beq j.kd 4 && j.cmp, j.pe, Nat.beq r r' with
          | true, some (_ + 1), true => some (Nat.beq o o')
          | _, _, _ => none
        | none => none
      | false => some false
    | _, _, _ => none
  | _, _ => none
def xIndex (C : Ctx) (T : TM) (st : SS) (t : Nat) (x ix : Operand) : Option (SS × SV) :=
  match (opnd T x).bind slcV, (opnd T ix).bind ieOf, (lk C.ty t).bind (·.sl) with
  | some (some (r, k), len, _), some (_, .lit n), some (sz, _, _) => match decide (0 ≤ n ∧ n < len) with
    | true => some (st, .a (.c (.ptr r (k + n.toNat * sz))))
    | false => none
  | some (some (r, k), len, _), some (_, .var j), some (sz, _, _) => match enumI j len 0 st with
    | some (st', m) => some (st', .a (.c (.ptr r (k + m * sz))))
    | none => none
  | _, _, _ => none
def xSlice (C : Ctx) (T : TM) (st : SS) (t : Nat) (x : Operand) (lo hi : Option Operand) : Option (SS × SV) :=
  match opnd T x, lk C.ty t with
  | some v, some i => match slcV v, i.sl with
    | some (p, len, cap), some (sz, _, _) => match bndS T len hi, bndS T 0 lo with
      | some h, some l => match Nat.ble l h && Nat.ble h cap with
        | true => some (st, cutS p l h cap sz)
        | false => none
      | _, _ => none
    | _, _ => match v, i.arr with
      | .a (.c (.ptr r k)), some (n, sz) => match bndS T n hi, bndS T 0 lo with
        | some h, some l => match Nat.ble l h && Nat.ble h n with
          | true => some (st, cutS (some (r, k)) l h n sz)
          | false => none
        | _, _ => none
      | _, _ => none
  | _, _ => none
def xStr (C : Ctx) (T : TM) (st : SS) (t : Nat) (x ix : Operand) : Option (SS × SV) :=
  match opnd T x, opnd T ix, lk C.ty t with
  | some (.a (.c (.lit (.string s)))), some (.a (.c (.lit (.int _ (.ofNat n))))), some i => match Nat.beq i.kd 3, s[n]? with
    | true, some b => some (st, litV (.int .u8 b.toNat))
    | _, _ => none
  | _, _, _ => none
def xIface (C : Ctx) (T : TM) (st : SS) (t : Nat) (x : Operand) : Option (SS × SV) :=
  match opnd T x, lk C.ty t with
  | some (.a (.c (.ptr r k))), some i => match Nat.beq i.kd 4 with
    | true => some (st, .a (.c (.ifp t r k)))
    | false => none
  | _, _ => none
def xEq (C : Ctx) (T : TM) (st : SS) (op : BinOp) (t : Nat) (x y : Operand) : Option (SS × SV) :=
  match opnd T x, opnd T y, lk C.ty t with
  | some a, some b, some i => match eqS C i (isConst x || isConst y) a b with
    | some d => match op with
      | .eql => some (st, litV (.bool d))
      | .neq => some (st, litV (.bool !d))
      | _ => none
    | none => none
  | _, _, _ => none
def xCall (C : Ctx) (T : TM) (st : SS) (c : Call) : Option (SS × SV) :=
  match c.callee, c.argTypes.toList with
  | .builtin .len, [t] => match opnds T c.args.toList, (lk C.ty t).map (·.kd) with
    | some [v], some 5 => match slcV v with
      | some (_, n, _) => some (st, litV (.int .i64 n))
      | none => none
    | some [.a (.c (.lit (.string s)))], some 3 => some (st, litV (.int .i64 s.size))
    | _, _ => none
  | .builtin .cap, [t] => match opnds T c.args.toList, (lk C.ty t).map (·.kd) with
    | some [v], some 5 => match slcV v with
      | some (_, _, n) => some (st, litV (.int .i64 n))
      | none => none
    | _, _ => none
  | _, _ => none
def pureX (C : Ctx) (T : TM) (st : SS) (o : Oper) : Option (SS × SV) :=
  match o.op with
  | .indexAddr t x ix => xIndex C T st t x ix
  | .slice t x lo hi none => xSlice C T st t x lo hi
  | .index t x ix => xStr C T st t x ix
  | .makeInterface t x => xIface C T st t x
  | .binOp op t x y _ => xEq C T st op t x y
  | .call c => xCall C T st c
  | _ => none
section
variable {D : Dom} {P : Program}
theorem bndS_is {V : VE D} {B : Bs} {N : Nat} {T : TM} {a : Act} (ha : TOK V B N T a) {d n : Nat} {x : Option Operand} (h : bndS T d x = some n) : (x = none ∧ n = d) ∨ ∃ y k, x = some y ∧ a.eval y = .int k (n : Int) := by
  unfold bndS at h
  split at h
  · simp only [Option.some.injEq] at h; exact .inl ⟨rfl, h.symm⟩
  · rename_i y
    split at h
    · rename_i k m hy
      simp only [Option.some.injEq] at h; subst h
      exact .inr ⟨y, k, rfl, ha.opnd hy⟩
    · simp at h
def slcVal (B : Bs) (p : Option (Nat × Nat)) : Option Addr :=
  match p with
  | some (r, k) => match B[r]? with
    | some (b, o) => some ⟨b, o + k, none⟩
    | none => none
  | none => none
theorem slcV_is {V : VE D} {B : Bs} {v : SV} {p : Option (Nat × Nat)} {n c : Nat} (h : slcV v = some (p, n, c)) {u : Value} (hu : v.is V B u) :
    u = .slice (slcVal B p) n c ∧ ∀ q, p = some q → ∃ b o, B[q.1]? = some (b, o) := by
  unfold slcV at h
  split at h
  · rename_i r k n' c'
    simp only [Option.some.injEq, Prod.mk.injEq] at h
    obtain ⟨rfl, rfl, rfl⟩ := h
    obtain ⟨b, o, hb, rfl⟩ := hu
    refine ⟨by simp [slcVal, hb], ?_⟩
    rintro q hq; simp only [Option.some.injEq] at hq; subst hq; exact ⟨b, o, hb⟩
  · simp only [Option.some.injEq, Prod.mk.injEq] at h
    obtain ⟨rfl, rfl, rfl⟩ := h
    exact ⟨hu, by simp⟩
  · simp at h
theorem mkSlc_is {V : VE D} {B : Bs} {p : Option (Nat × Nat)} (hp : ∀ q, p = some q → ∃ b o, B[q.1]? = some (b, o)) (n c : Nat) : (mkSlc p n c).is V B (.slice (slcVal B p) n c) := by
  unfold mkSlc
  match p, hp with
  | none, _ => rfl
  | some (r, k), hp =>
    obtain ⟨b, o, hb⟩ := hp _ rfl
    exact ⟨b, o, hb, by simp [slcVal, hb]⟩
theorem cutS_is {V : VE D} {B : Bs} {p : Option (Nat × Nat)} (hp : ∀ q, p = some q → ∃ b o, B[q.1]? = some (b, o)) (l h m s : Nat) :
    (cutS p l h m s).is V B (.slice (if m = l then slcVal B p else (slcVal B p).map (·.add (l * s))) (h - l) (m - l)) := by
  unfold cutS
  by_cases e : m = l
  · subst e
    rw [if_pos rfl, Nat.beq_refl]
    exact mkSlc_is hp _ _
  · rw [if_neg e, show Nat.beq m l = false from Bool.eq_false_iff.2 (fun h => e (Nat.eq_of_beq_eq_true h))]
    have hp' : ∀ q, (p.map fun q => (q.1, q.2 + l * s)) = some q → ∃ b o, B[q.1]? = some (b, o) := by
      intro q hq
      cases p with
      | none => simp at hq
      | some q0 => simp only [Option.map_some, Option.some.injEq] at hq; subst hq; exact hp q0 rfl
    have := mkSlc_is (V := V) hp' (h - l) (m - l)
    have e2 : slcVal B (p.map fun q => (q.1, q.2 + l * s)) = (slcVal B p).map (·.add (l * s)) := by
      cases p with
      | none => rfl
      | some q0 =>
        obtain ⟨r, k⟩ := q0
        obtain ⟨b, o, hb⟩ := hp _ rfl
        simp only at hb
        simp [slcVal, hb, Addr.add_mid, Nat.add_assoc]
    rw [e2] at this
    exact this
theorem equal_gen : ∃ n, ∀ t u v, Op.equal t u v = Op.equalIn (n + 2) t u v := ⟨9998, fun _ _ _ => rfl⟩
theorem eqOut {t : Nat} {x y : Operand} {u v : Value} {d : Bool} {w : World} (hg : ∀ op, (eqGuard op t x y u v).run P w = .ok () w)
    (hb : binOp .eql t u v = (do pure (.bool (← Op.equal t u v)))) (hb' : binOp .neq t u v = (do pure (.bool (!(← Op.equal t u v))))) (he : (Op.equal t u v).run P w = .ok d w) :
    (eqGuard .eql t x y u v).run P w = .ok () w ∧ (eqGuard .neq t x y u v).run P w = .ok () w ∧ (binOp .eql t u v).run P w = .ok (.bool d) w ∧ (binOp .neq t u v).run P w = .ok (.bool !d) w := by
  refine ⟨hg _, hg _, ?_, ?_⟩
  · rw [hb]; simp only [Sem.run_bind, he, Result.andThen_ok, Sem.run_pure]
  · rw [hb']; simp only [Sem.run_bind, he, Result.andThen_ok, Sem.run_pure]
theorem beq_addr (b o1 o o' : Nat) : ((⟨b, o1 + o, none⟩ : Addr) == ⟨b, o1 + o', none⟩) = Nat.beq o o' := by
  cases hq : Nat.beq o o' with
  | true => have := Nat.eq_of_beq_eq_true hq; subst this; simp
  | false => have := Nat.ne_of_beq_eq_false hq; simp; omega
set_option maxHeartbeats 2000000 in
theorem eqS_sound {C : Ctx} (hC : CtxOk P D C) {t : Nat} {i : TyI} (hi : TyOk P t i) {x y : Operand} {a b : SV} {d : Bool} (h : eqS C i (isConst x || isConst y) a b = some d) {V : VE D} {B : Bs} {u v : Value} (hu : a.is V B u) (hv : b.is V B v) (w : World) :
    (eqGuard .eql t x y u v).run P w = .ok () w ∧ (eqGuard .neq t x y u v).run P w = .ok () w ∧ (binOp .eql t u v).run P w = .ok (.bool d) w ∧ (binOp .neq t u v).run P w = .ok (.bool !d) w := by
  obtain ⟨ds, hd, _⟩ := hi.desc
  have hk := hi.kd ds hd
  obtain ⟨n0, hn0⟩ := equal_gen
  unfold eqS at h
  split at h
  · rename_i x' y'
    split at h
    · rename_i p q hkd
      simp only [Option.some.injEq] at h; subst h
      have hu : u = .bool p := hu
      have hv : v = .bool q := hv
      subst hu; subst hv
      rw [hkd] at hk
      cases ds <;> simp [kdOf] at hk
      exact eqOut (fun op => by cases op <;> rfl) rfl rfl (by simp [hn0, Op.equalIn, run_underlying hd])
    · rename_i hkd
      simp only [Option.some.injEq] at h; subst h
      have hu : u = .pointer none := hu
      have hv : v = .pointer none := hv
      subst hu; subst hv
      rw [hkd] at hk
      cases ds <;> simp [kdOf] at hk
      exact eqOut (fun op => by cases op <;> rfl) rfl rfl (by simp [hn0, Op.equalIn, run_underlying hd])
    · rename_i hkd
      simp only [Option.some.injEq] at h; subst h
      have hu : u = .pointer none := hu
      obtain ⟨_, _, _, hv⟩ := hv
      subst hu; subst hv
      rw [hkd] at hk
      cases ds <;> simp [kdOf] at hk
      exact eqOut (fun op => by cases op <;> rfl) rfl rfl (by simp [hn0, Op.equalIn, run_underlying hd])
    · rename_i hkd
      simp only [Option.some.injEq] at h; subst h
      have hv : v = .pointer none := hv
      obtain ⟨_, _, _, hu⟩ := hu
      subst hu; subst hv
      rw [hkd] at hk
      cases ds <;> simp [kdOf] at hk
      exact eqOut (fun op => by cases op <;> rfl) rfl rfl (by simp [hn0, Op.equalIn, run_underlying hd])
    · rename_i r o r' o' hkd
      split at h
      · rename_i n hpe hr
        simp only [Option.some.injEq] at h; subst h
        have hr := Nat.eq_of_beq_eq_true hr
        subst hr
        obtain ⟨b1, o1, hb1, hu⟩ := hu
        obtain ⟨b2, o2, hb2, hv⟩ := hv
        rw [hb1] at hb2; simp only [Option.some.injEq, Prod.mk.injEq] at hb2; obtain ⟨rfl, rfl⟩ := hb2
        subst hu; subst hv
        obtain ⟨e, he, hs⟩ := hi.pe _ hpe
        exact eqOut (fun op => by cases op <;> rfl) rfl rfl (by simp [hn0, Op.equalIn, run_underlying he, run_sizeOf hs, sameAddr, beq_addr])
      · simp at h
    · rename_i hkd
      simp only [Option.some.injEq] at h; subst h
      rename_i p1 p2 p3 p4
      have hu : u = .slice none p1 p2 := hu
      have hv : v = .slice none p3 p4 := hv
      subst hu; subst hv
      rw [hkd] at hk
      cases ds <;> simp [kdOf] at hk
      exact eqOut (fun op => by cases op <;> rfl) rfl rfl (by simp [hn0, Op.equalIn, run_underlying hd])
    · rename_i hkd
      simp only [Option.some.injEq] at h; subst h
      rename_i p1 p2 p3 p4 p5 p6
      have hu : u = .slice none p1 p2 := hu
      obtain ⟨_, _, _, hv⟩ := hv
      subst hu; subst hv
      rw [hkd] at hk
      cases ds <;> simp [kdOf] at hk
      exact eqOut (fun op => by cases op <;> rfl) rfl rfl (by simp [hn0, Op.equalIn, run_underlying hd])
    · rename_i hkd
      simp only [Option.some.injEq] at h; subst h
      rename_i p1 p2 p3 p4 p5 p6
      have hv : v = .slice none p5 p6 := hv
      obtain ⟨_, _, _, hu⟩ := hu
      subst hu; subst hv
      rw [hkd] at hk
      cases ds <;> simp [kdOf] at hk
      exact eqOut (fun op => by cases op <;> rfl) rfl rfl (by simp [hn0, Op.equalIn, run_underlying hd])
    · rename_i hkd
      split at h
      · rename_i hcx
        simp only [Option.some.injEq] at h; subst h
        have hu : u = .nilIface := hu
        have hv : v = .nilIface := hv
        subst hu; subst hv
        rw [hkd] at hk
        cases ds <;> simp [kdOf] at hk
        refine eqOut (fun op => ?_) rfl rfl (by simp [hn0, Op.equalIn, run_underlying hd])
        cases x <;> cases y <;> first | (simp [isConst] at hcx; done) | (cases op <;> rfl)
      · simp at h
    · rename_i hkd
      simp only [Option.some.injEq] at h; subst h
      have hu : u = .nilIface := hu
      obtain ⟨_, _, _, hv⟩ := hv
      subst hu; subst hv
      rw [hkd] at hk
      cases ds <;> simp [kdOf] at hk
      exact eqOut (fun op => by cases op <;> rfl) rfl rfl (by simp [hn0, Op.equalIn, run_underlying hd])
    · rename_i hkd
      simp only [Option.some.injEq] at h; subst h
      have hv : v = .nilIface := hv
      obtain ⟨_, _, _, hu⟩ := hu
      subst hu; subst hv
      rw [hkd] at hk
      cases ds <;> simp [kdOf] at hk
      exact eqOut (fun op => by cases op <;> rfl) rfl rfl (by simp [hn0, Op.equalIn, run_underlying hd])
    · rename_i t1 r o t2 r' o' hkd
      rw [hkd] at hk
      cases ds <;> simp [kdOf] at hk
      obtain ⟨b1, o1, hb1, hu⟩ := hu
      obtain ⟨b2, o2, hb2, hv⟩ := hv
      subst hu; subst hv
      split at h
      · rename_i ht
        have ht := Nat.eq_of_beq_eq_true ht
        subst ht
        split at h
        · rename_i j hj
          split at h
          · rename_i hc hpe hr
            simp only [Option.some.injEq] at h; subst h
            have hr := Nat.eq_of_beq_eq_true hr
            subst hr
            rw [hb1] at hb2; simp only [Option.some.injEq, Prod.mk.injEq] at hb2; obtain ⟨rfl, rfl⟩ := hb2
            simp only [Bool.and_eq_true] at hc
            obtain ⟨inf, hinf, hcmp⟩ := (hC.ty _ _ hj).cmp hc.2
            obtain ⟨e, he, hs⟩ := (hC.ty _ _ hj).pe _ hpe
            exact eqOut (fun op => by cases op <;> rfl) rfl rfl (by simp [hn0, Op.equalIn, run_underlying hd, run_underlying he, typeInfo, hinf, hcmp, run_sizeOf hs, sameAddr, beq_addr])
          · simp at h
        · simp at h
      · rename_i ht
        simp only [Option.some.injEq] at h; subst h
        have ht := Nat.ne_of_beq_eq_false ht
        exact eqOut (fun op => by cases op <;> rfl) rfl rfl (by simp [hn0, Op.equalIn, run_underlying hd, ht])
    · simp at h
  · simp at h
theorem pureX_mem {C : Ctx} {T : TM} {st : SS} {o : Oper} {st' : SS} {v : SV} (h : pureX C T st o = some (st', v)) : st'.mem = st.mem ∧ ∀ t ∈ st.tr, t ∈ st'.tr := by
  have one : ∀ {y : SV}, some (st, y) = some (st', v) → st'.mem = st.mem ∧ ∀ t ∈ st.tr, t ∈ st'.tr := by
    intro y hx
    simp only [Option.some.injEq, Prod.mk.injEq] at hx; obtain ⟨rfl, _⟩ := hx; exact ⟨rfl, fun _ h => h⟩
  simp only [pureX, xIndex, xSlice, xStr, xIface, xEq, xCall] at h
  repeat' split at h
  all_goals first
    | exact one h
    | (simp at h; done)
    | (rename_i he
       simp only [Option.some.injEq, Prod.mk.injEq] at h; obtain ⟨rfl, _⟩ := h
       exact enumI_mem _ _ he)
theorem pureX_sound {C : Ctx} (hC : CtxOk P D C) {T : TM} {st : SS} {o : Oper} {st' : SS} {v : SV} (h : pureX C T st o = some (st', v)) {V : VE D} {B : Bs} {N : Nat} (hh : ∀ t ∈ st'.tr, t.holds V) {a : Act} (ha : TOK V B N T a) :
    ∃ u, v.is V B u ∧ ∀ w, (execOp a.eval o).run P w = .ok (.value u) w := by
  obtain ⟨dst, op, type, pos, after, guard⟩ := o
  unfold pureX at h
  dsimp only at h
  split at h
  · rename_i t x ix
    unfold xIndex at h
    split at h
    · rename_i r k len cap ki n sz by' z hx hix hs
      split at h
      · rename_i hn
        have hn := of_decide_eq_true hn
        simp only [Option.some.injEq, Prod.mk.injEq] at h; obtain ⟨_, rfl⟩ := h
        obtain ⟨vx, hx1, hx2⟩ := Option.bind_eq_some_iff.1 hx
        obtain ⟨vi, hi1, hi2⟩ := Option.bind_eq_some_iff.1 hix
        obtain ⟨i, hi, hsl⟩ := Option.bind_eq_some_iff.1 hs
        obtain ⟨hu, hB⟩ := slcV_is hx2 (ha.opnd hx1)
        obtain ⟨b, o, hb⟩ := hB _ rfl
        have hiv := ieOf_is hi2 (ha.opnd hi1)
        obtain ⟨e, inf, zv, he, hinf, hsz, _⟩ := (hC.ty t i hi).sl _ _ _ hsl
        have hsz' : (P.info? e).map (·.size) = some sz := by rw [hinf]; simp [hsz]
        refine ⟨.pointer (some ⟨b, o + (k + n.toNat * sz), none⟩), ⟨b, o, hb, rfl⟩, fun w => ?_⟩
        have e1 : (⟨b, o + k, none⟩ : Addr).add (n.toNat * sz) = ⟨b, o + (k + n.toNat * sz), none⟩ := by rw [Addr.add_mid, Nat.add_assoc]
        simp only at hb
        simp [execOp, Instr.indexAt, run_underlying he, hu, hiv, slcVal, hb, IE.den, asIntOf, run_sizeOf hsz', hn, e1]
      · simp at h
    · rename_i r k len cap ki j sz by' z hx hix hs
      split at h
      · rename_i st1 m hen
        simp only [Option.some.injEq, Prod.mk.injEq] at h; obtain ⟨rfl, rfl⟩ := h
        obtain ⟨hj, _, hm⟩ := enumI_sound _ _ hen hh
        obtain ⟨vx, hx1, hx2⟩ := Option.bind_eq_some_iff.1 hx
        obtain ⟨vi, hi1, hi2⟩ := Option.bind_eq_some_iff.1 hix
        obtain ⟨i, hi, hsl⟩ := Option.bind_eq_some_iff.1 hs
        obtain ⟨hu, hB⟩ := slcV_is hx2 (ha.opnd hx1)
        obtain ⟨b, o, hb⟩ := hB _ rfl
        have hiv := ieOf_is hi2 (ha.opnd hi1)
        have hiv : a.eval ix = .int ki (m : Int) := by rw [hiv]; show Value.int ki (V.it j) = _; rw [hj]
        obtain ⟨e, inf, zv, he, hinf, hsz, _⟩ := (hC.ty t i hi).sl _ _ _ hsl
        have hsz' : (P.info? e).map (·.size) = some sz := by rw [hinf]; simp [hsz]
        refine ⟨.pointer (some ⟨b, o + (k + m * sz), none⟩), ⟨b, o, hb, rfl⟩, fun w => ?_⟩
        have e1 : (⟨b, o + k, none⟩ : Addr).add (m * sz) = ⟨b, o + (k + m * sz), none⟩ := by rw [Addr.add_mid, Nat.add_assoc]
        simp only at hb
        have hn : 0 ≤ (m : Int) ∧ (m : Int) < len := by omega
        simp [execOp, Instr.indexAt, run_underlying he, hu, hiv, slcVal, hb, asIntOf, run_sizeOf hsz', e1]
        intro hge
        omega
      · simp at h
    · simp at h
  · rename_i t x lo hi
    unfold xSlice at h
    split at h
    · rename_i v' i hx hty
      have hlo : ∀ {l : Nat}, bndS T 0 lo = some l → (lo = none ∧ l = 0) ∨ ∃ y k, lo = some y ∧ a.eval y = .int k (l : Int) := fun h => bndS_is ha h
      have bnd : ∀ (k : IntKind) (n y : Nat) (code : BoundsCode) (w : World), n ≤ y → (Instr.sliceBound (.int k (n : Int)) y code).run P w = .ok n w := by
        intro k n y code w hle
        have : (n : Int) ≤ y := by omega
        simp [Instr.sliceBound, asIntOf, this]
      have bnds : ∀ (isS : Bool) (len cap l h : Nat) (w : World), bndS T len hi = some h → bndS T 0 lo = some l → l ≤ h → h ≤ cap →
          (Instr.sliceBounds isS len cap (lo.map a.eval) (hi.map a.eval) none).run P w = .ok (l, h, cap) w := by
        intro isS len cap l h w hh1 hl1 hlh hhc
        rcases bndS_is ha hh1 with ⟨rfl, rfl⟩ | ⟨y, k, rfl, hy⟩ <;> rcases hlo hl1 with ⟨rfl, rfl⟩ | ⟨y', k', rfl, hy'⟩ <;> simp [Instr.sliceBounds, *]
      split at h
      · rename_i p len cap sz by' z hsv hsl
        obtain ⟨e, inf, zv, he, hinf, hsz, _⟩ := (hC.ty t i hty).sl _ _ _ hsl
        have hsz' : (P.info? e).map (·.size) = some sz := by rw [hinf]; simp [hsz]
        obtain ⟨hu, hB⟩ := slcV_is hsv (ha.opnd hx)
        split at h
        · rename_i h1 l1 hh1 hl1
          split at h
          · rename_i hle
            simp only [Bool.and_eq_true] at hle
            simp only [Option.some.injEq, Prod.mk.injEq] at h; obtain ⟨_, rfl⟩ := h
            refine ⟨_, cutS_is hB l1 h1 cap sz, fun w => ?_⟩
            have := bnds true len cap l1 h1 w hh1 hl1 (Nat.le_of_ble_eq_true hle.1) (Nat.le_of_ble_eq_true hle.2)
            simp [execOp, Instr.sliceAt, Instr.slice, run_underlying he, hu, this, run_sizeOf hsz']
          · simp at h
        · simp at h
      · split at h
        · rename_i r k n sz harr _
          obtain ⟨d, hd, _, _, har, _⟩ := (hC.ty t i hty).desc
          obtain ⟨_, e, rfl, hsz⟩ := har n sz harr
          obtain ⟨b, o, hb, hu⟩ := ha.opnd hx
          split at h
          · rename_i h1 l1 hh1 hl1
            split at h
            · rename_i hle
              simp only [Bool.and_eq_true] at hle
              simp only [Option.some.injEq, Prod.mk.injEq] at h; obtain ⟨_, rfl⟩ := h
              have hp : ∀ q, some (r, k) = some q → ∃ b o, B[q.1]? = some (b, o) := by
                rintro q hq; simp only [Option.some.injEq] at hq; subst hq; exact ⟨b, o, hb⟩
              refine ⟨_, cutS_is hp l1 h1 n sz, fun w => ?_⟩
              have := bnds false n n l1 h1 w hh1 hl1 (Nat.le_of_ble_eq_true hle.1) (Nat.le_of_ble_eq_true hle.2)
              simp [execOp, Instr.sliceAt, run_underlying hd, hu, Instr.sureAddr, this, run_sizeOf hsz, slcVal, hb]
              split <;> rfl
            · simp at h
          · simp at h
        · simp at h
    · simp at h
  · rename_i t x ix
    unfold xStr at h
    split at h
    · rename_i s k n i hx hix hi
      split at h
      · rename_i b hkd hb
        simp only [Option.some.injEq, Prod.mk.injEq] at h; obtain ⟨_, rfl⟩ := h
        have hu : a.eval x = .string s := ha.opnd hx
        have hiv : a.eval ix = .int k (n : Int) := ha.opnd hix
        obtain ⟨d, hd, _⟩ := (hC.ty t i hi).desc
        have hk := (hC.ty t i hi).kd d hd
        have hkd := Nat.eq_of_beq_eq_true hkd
        rw [hkd] at hk
        cases d <;> simp [kdOf] at hk
        refine ⟨_, rfl, fun w => ?_⟩
        simp [execOp, Instr.index, asIntOf, run_underlying hd, hu, hiv, hb]
      · simp at h
    · simp at h
  · rename_i t x
    unfold xIface at h
    split at h
    · rename_i r k i hx hi
      split at h
      · rename_i hkd
        simp only [Option.some.injEq, Prod.mk.injEq] at h; obtain ⟨_, rfl⟩ := h
        obtain ⟨b, o, hb, hu⟩ := ha.opnd hx
        obtain ⟨d, hd, _⟩ := (hC.ty t i hi).desc
        have hk := (hC.ty t i hi).kd d hd
        have hkd := Nat.eq_of_beq_eq_true hkd
        rw [hkd] at hk
        refine ⟨.iface t (.pointer (some ⟨b, o + k, none⟩)), ⟨b, o, hb, rfl⟩, fun w => ?_⟩
        cases d <;> simp [kdOf] at hk
        simp [execOp, Instr.makeInterface, run_underlying hd, hu]
      · simp at h
    · simp at h
  · rename_i op t x y t'
    unfold xEq at h
    split at h
    · rename_i p q i hx hy hi
      split at h
      · rename_i d hd
        have hs := fun w => eqS_sound hC (hC.ty t i hi) (x := x) (y := y) hd (ha.opnd hx) (ha.opnd hy) w
        split at h
        · simp only [Option.some.injEq, Prod.mk.injEq] at h; obtain ⟨_, rfl⟩ := h
          exact ⟨_, rfl, fun w => by simp [execOp, (hs w).1, (hs w).2.2.1]⟩
        · simp only [Option.some.injEq, Prod.mk.injEq] at h; obtain ⟨_, rfl⟩ := h
          exact ⟨_, rfl, fun w => by simp [execOp, (hs w).2.1, (hs w).2.2.2]⟩
        · simp at h
      · simp at h
    · simp at h
  · rename_i c
    unfold xCall at h
    obtain ⟨callee, args, ats⟩ := c
    dsimp only at h
    split at h
    · rename_i t hat
      have hat : ats = #[t] := by rw [← Array.toList_inj]; exact hat
      subst hat
      split at h
      · rename_i v' hvs hkd
        split at h
        · rename_i p n cc hsv
          simp only [Option.some.injEq, Prod.mk.injEq] at h; obtain ⟨_, rfl⟩ := h
          have hus := opnds_is ha hvs
          generalize hul : args.toList.map a.eval = us at hus
          match us, hus with
          | [u1], ⟨hu1, _⟩ =>
            obtain ⟨hu, _⟩ := slcV_is hsv hu1
            have hargs : args.map a.eval = #[u1] := by
              apply Array.toList_inj.1; rw [Array.toList_map, hul]
            obtain ⟨i, hi, hk1⟩ := Option.map_eq_some_iff.1 hkd
            obtain ⟨d, hd, _⟩ := (hC.ty t i hi).desc
            have hk := (hC.ty t i hi).kd d hd
            rw [hk1] at hk
            refine ⟨_, rfl, fun w => ?_⟩
            cases d <;> simp [kdOf] at hk
            simp [execOp_call_bi, hargs, hu, builtin, Builtin.len_, run_underlying hd, goInt]
        · simp at h
      · rename_i s hvs hkd
        simp only [Option.some.injEq, Prod.mk.injEq] at h; obtain ⟨_, rfl⟩ := h
        have hus := opnds_is ha hvs
        generalize hul : args.toList.map a.eval = us at hus
        match us, hus with
        | [u1], ⟨hu1, _⟩ =>
          have hu : u1 = .string s := hu1
          have hargs : args.map a.eval = #[u1] := by
            apply Array.toList_inj.1; rw [Array.toList_map, hul]
          obtain ⟨i, hi, hk1⟩ := Option.map_eq_some_iff.1 hkd
          obtain ⟨d, hd, _⟩ := (hC.ty t i hi).desc
          have hk := (hC.ty t i hi).kd d hd
          rw [hk1] at hk
          refine ⟨_, rfl, fun w => ?_⟩
          cases d <;> simp [kdOf] at hk
          simp [execOp_call_bi, hargs, hu, builtin, Builtin.len_, run_underlying hd, goInt]
      · simp at h
    · rename_i t hat
      have hat : ats = #[t] := by rw [← Array.toList_inj]; exact hat
      subst hat
      split at h
      · rename_i v' hvs hkd
        split at h
        · rename_i p n cc hsv
          simp only [Option.some.injEq, Prod.mk.injEq] at h; obtain ⟨_, rfl⟩ := h
          have hus := opnds_is ha hvs
          generalize hul : args.toList.map a.eval = us at hus
          match us, hus with
          | [u1], ⟨hu1, _⟩ =>
            obtain ⟨hu, _⟩ := slcV_is hsv hu1
            have hargs : args.map a.eval = #[u1] := by
              apply Array.toList_inj.1; rw [Array.toList_map, hul]
            obtain ⟨i, hi, hk1⟩ := Option.map_eq_some_iff.1 hkd
            obtain ⟨d, hd, _⟩ := (hC.ty t i hi).desc
            have hk := (hC.ty t i hi).kd d hd
            rw [hk1] at hk
            refine ⟨_, rfl, fun w => ?_⟩
            cases d <;> simp [kdOf] at hk
            simp [execOp_call_bi, hargs, hu, builtin, Builtin.cap_, run_underlying hd, goInt]
        · simp at h
      · simp at h
    · simp at h
  · simp at h
/-- an operation that leaves the memory alone -/
def pureY (C : Ctx) (T : TM) (st : SS) (o : Oper) : Option (SS × SV) :=
  match pureOp C T st o with
  | some r => some r
  | none => pureX C T st o
theorem pureY_mem {C : Ctx} {T : TM} {st : SS} {o : Oper} {st' : SS} {v : SV} (h : pureY C T st o = some (st', v)) : st'.mem = st.mem ∧ ∀ t ∈ st.tr, t ∈ st'.tr := by
  unfold pureY at h
  split at h
  · rename_i r hr; rw [h] at hr; exact pureOp_mem hr
  · exact pureX_mem h
theorem pureY_sound {C : Ctx} (hC : CtxOk P D C) {T : TM} {st : SS} {o : Oper} {st' : SS} {v : SV} (h : pureY C T st o = some (st', v)) {V : VE D} {B : Bs} {N : Nat} (hh : ∀ t ∈ st'.tr, t.holds V) {a : Act} (ha : TOK V B N T a) :
    ∃ u, v.is V B u ∧ ∀ w, (execOp a.eval o).run P w = .ok (.value u) w := by
  unfold pureY at h
  split at h
  · rename_i r hr; rw [h] at hr; exact pureOp_sound hC hr hh ha
  · exact pureX_sound hC h hh ha
end
end Go.Proofs.YtnmkmbjbaagojaaGreatDoor
