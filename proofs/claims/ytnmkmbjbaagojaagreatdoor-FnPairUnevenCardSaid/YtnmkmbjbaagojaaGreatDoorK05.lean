/- A part of the proof of laws.FnPairUneven. -/
import Derived.Test.YtnmkmbjbaagojaaGreatDoorK04
namespace Go.Proofs.YtnmkmbjbaagojaaGreatDoor
open Go
set_option maxRecDepth 100000
set_option linter.unusedVariables false
set_option linter.unusedSimpArgs false
/-- is a guarded operation carried out? -/
def wantS (ops : Array Oper) (T : TM) (o : Oper) : Option Bool :=
  match o.guard with
  | none => some true
  | some (j, want) => match (ops[j]?).bind (·.dst) with
    | some d => match T.get d with
      | some (.a (.c (.lit (.bool b)))) => some (b == want)
      | some (.a (.c (.lit (.tuple _)))) => some false
      | _ => none
    | none => none
def putT (N : Nat) (T : TM) (dst : Option Tmp) (v : SV) : Option TM :=
  match dst with
  | some d => match Nat.blt d N with
    | true => some (T.put d v)
    | false => none
  | none => some T
def stepS (C : Ctx) (call : CallF) (N : Nat) (ops : Array Oper) (T : TM) (st : SS) (o : Oper) : Option (TM × SS) :=
  match wantS ops T o with
  | some true => match pureY C T st o with
    | some (st', v) => match putT N T o.dst v with
      | some T' => some (T', st')
      | none => none
    | none => match memY C call T st o with
      | some (st', v) => match putT N T o.dst v with
        | some T' => some (T', st')
        | none => none
      | none => none
  | some false => match putT N T o.dst (litV undef) with
    | some T' => some (T', st)
    | none => none
  | none => none
def opsS (C : Ctx) (call : CallF) (N : Nat) (ops : Array Oper) : List Oper → TM → SS → Option (TM × SS)
  | [], T, st => some (T, st)
  | o :: r, T, st => match stepS C call N ops T st o with
    | some (T', st') => opsS C call N ops r T' st'
    | none => none
/-- the first operation among the ready ones that may be taken first -/
def takeS (C : Ctx) (N : Nat) (ops : Array Oper) (listed : Array Bool) (T : TM) (st : SS) : List Nat → Option (Nat × TM × SS)
  | [] => none
  | i :: r => match ops[i]? with
    | some o => match wantS ops T o with
      | some true => match pureY C T st o with
        | some (st', v) => match putT N T o.dst v, Region.free .any ops listed i with
          | some T', true => some (i, T', st')
          | _, _ => takeS C N ops listed T st r
        | none => takeS C N ops listed T st r
      | some false => match putT N T o.dst (litV undef), Region.free .any ops listed i with
        | some T', true => some (i, T', st)
        | _, _ => takeS C N ops listed T st r
      | none => takeS C N ops listed T st r
    | none => takeS C N ops listed T st r
/-- what a load gives -/
def loadV (C : Ctx) (T : TM) (st : SS) (o : Oper) : Option SV :=
  match o.op with
  | .load t x => match lk C.ty t, opnd T x with
    | some i, some (.a (.c (.ptr r k))) => match i.row with
      | true => match getM st.mem r k i.size with
        | some cs => some (.a (.agg cs))
        | none => none
      | false => match getM st.mem r k 1 with
        | some [c] => some (.a (.c c))
        | _ => none
    | some i, some (.a (.c (.lit (.pointer (some ⟨g, 0, none⟩))))) => match i.row, lk C.gl g with
      | false, some q => match getM st.mem q 0 1 with
        | some [.gc q' g' t' r k] => match Nat.beq q q' && Nat.beq g g' with
          | true => some (.a (.c (.ifp t' r k)))
          | false => none
        | _ => none
      | _, _ => none
    | _, _ => none
  | _ => none
/-- a load that may be taken first: the others that may come ahead leave the world alone -/
def takeL (C : Ctx) (N : Nat) (ops : Array Oper) (listed : Array Bool) (T : TM) (st : SS) : List Nat → Option (Nat × TM)
  | [] => none
  | i :: r => match ops[i]? with
    | some o => match o.guard, loadV C T st o with
      | none, some v => match putT N T o.dst v, Region.free .any ops listed i && checkR C.ty ops listed i (reach ops listed i ops.toList 0 []) && checkL listed (reach ops listed i ops.toList 0 []) with
        | some T', true => some (i, T')
        | _, _ => takeL C N ops listed T st r
      | _, _ => takeL C N ops listed T st r
    | none => takeL C N ops listed T st r
def drawS (C : Ctx) (call : CallF) (N : Nat) (ops : Array Oper) : Nat → Array Bool → TM → SS → Option (TM × SS)
  | 0, listed, T, st => match Region.ready .any ops listed with
    | [] => some (T, st)
    | _ => none
  | n + 1, listed, T, st => match Region.ready .any ops listed with
    | [] => some (T, st)
    | i :: r => match takeS C N ops listed T st (i :: r) with
      | some (j, T', st') => drawS C call N ops n (listed.setIfInBounds j true) T' st'
      | none => match takeL C N ops listed T st (i :: r) with
       | some (j, T') => drawS C call N ops n (listed.setIfInBounds j true) T' st
       | none => match (match ops[i]? with
          | some o => match stepS C call N ops T st o with
            | some (T', st') => drawS C call N ops n (listed.setIfInBounds i true) T' st'
            | none => none
          | none => none) with
        | some res => match r.all (fun j => match ops[j]? with
          | some o => match stepS C call N ops T st o with
            | some (T', st') => match drawS C call N ops n (listed.setIfInBounds j true) T' st' with
              | some res' => qrsE res' res
              | none => false
            | none => false
          | none => false) with
          | true => some res
          | false => none
        | none => none
inductive Ex where
  | normal
  | exit (id : Nat)
  | ret
def iterS (f : TM → SS → Option (TM × SS × Ex)) : Nat → TM → SS → Option (TM × SS × Ex)
  | 0, _, _ => none
  | n + 1, T, st => match f T st with
    | some (T', st', .normal) => iterS f n T' st'
    | r => r
def regS (C : Ctx) (call : CallF) (N : Nat) (ops : Array Oper) (draw : Bool) (T : TM) (st : SS) : Option (TM × SS × Ex) :=
  match draw with
  | false => match opsS C call N ops ops.toList T st with
    | some (T', st') => some (T', st', .normal)
    | none => none
  | true => match Region.noSelect ops with
    | true => match drawS C call N ops ops.size (Array.replicate ops.size false) T st with
      | some (T', st') => some (T', st', .normal)
      | none => none
    | false => none
def codeS (C : Ctx) (call : CallF) (N m : Nat) : Code → TM → SS → Option (TM × SS × Ex)
  | .skip, T, st => some (T, st, .normal)
  | .label _, T, st => some (T, st, .normal)
  | .region _ ops draw, T, st => regS C call N ops draw T st
  | .seq a b, T, st => match codeS C call N m a T st with
    | some (T', st', .normal) => codeS C call N m b T' st'
    | r => r
  | .cond c x y, T, st => match opnd T c with
    | some (.a (.c (.lit (.bool true)))) => codeS C call N m x T st
    | some (.a (.c (.lit (.bool false)))) => codeS C call N m y T st
    | _ => none
  | .block id c, T, st => match codeS C call N m c T st with
    | some (T', st', .exit id') => match Nat.beq id' id with
      | true => some (T', st', .normal)
      | false => some (T', st', .exit id')
    | r => r
  | .loop c, T, st => iterS (codeS C call N m c) m T st
  | .exit id, T, st => some (T, st, .exit id)
  | .ret, T, st => some (T, st, .ret)
  | _, _, _ => none
section
variable {D : Dom} {P : Program}
def Ex.of : Ex → Exit
  | .normal => .normal
  | .exit id => .exit id
  | .ret => .ret
theorem wantS_sound {ops : Array Oper} {T : TM} {o : Oper} {b : Bool} (h : wantS ops T o = some b) {V : VE D} {B : Bs} {N : Nat} {a : Act} (ha : TOK V B N T a) :
    Region.wanted o (yielded ops a.tmps) = b := by
  unfold wantS at h
  unfold Region.wanted
  split at h
  · rename_i hg; rw [hg]; simpa using h
  · rename_i j want hg
    rw [hg]
    split at h
    · rename_i d hd
      split at h
      · rename_i b' hl
        simp only [Option.some.injEq] at h
        obtain ⟨u, h1, h2⟩ := ha.look d _ hl
        have h2 : u = .bool b' := h2
        subst h2
        simp only [yielded, hd, Option.bind_some, h1]
        rw [← h]
        cases b' <;> cases want <;> rfl
      · rename_i vs hl
        simp only [Option.some.injEq] at h
        obtain ⟨u, h1, h2⟩ := ha.look d _ hl
        have h2 : u = .tuple vs := h2
        subst h2
        simp only [yielded, hd, Option.bind_some, h1]
        rw [← h]
        cases want <;> rfl
      · simp at h
    · simp at h
theorem putT_sound {N : Nat} {T T' : TM} {dst : Option Tmp} {v : SV} (h : putT N T dst v = some T') {V : VE D} {B : Bs} {a : Act} (ha : TOK V B N T a) {u : Value} (hv : v.is V B u) : TOK V B N T' (a.put dst u) := by
  unfold putT at h
  split at h
  · split at h
    · rename_i hd
      simp only [Option.some.injEq] at h; subst h
      exact ha.put (Nat.le_of_ble_eq_true hd) hv
    · simp at h
  · simp only [Option.some.injEq] at h; subst h
    exact ha
theorem stepS_tr {C : Ctx} {call : CallF} (hcall : CallOK P D call) {N : Nat} {ops : Array Oper} {T : TM} {st : SS} {o : Oper} {T' : TM} {st' : SS} (h : stepS C call N ops T st o = some (T', st')) : ∀ t ∈ st.tr, t ∈ st'.tr := by
  unfold stepS at h
  split at h
  · split at h
    · rename_i hp
      split at h
      · simp only [Option.some.injEq, Prod.mk.injEq] at h; obtain ⟨_, rfl⟩ := h
        exact (pureY_mem hp).2
      · simp at h
    · split at h
      · rename_i hm
        split at h
        · simp only [Option.some.injEq, Prod.mk.injEq] at h; obtain ⟨_, rfl⟩ := h
          exact memY_tr hcall hm
        · simp at h
      · simp at h
  · split at h
    · simp only [Option.some.injEq, Prod.mk.injEq] at h; obtain ⟨_, rfl⟩ := h; exact fun _ h => h
    · simp at h
  · simp at h
/-- what holds behind: the state told of the world, the temporaries -/
def Next (S : Nat → Nat → Prop) (w0 : World) (V : VE D) (B : Bs) (N : Nat) (T : TM) (st : SS) (K : Act → World → Prop) : Prop :=
  ∀ X a w, TOK V (B ++ X) N T a → Rep S w0 V (B ++ X) st w → K a w
theorem Next.more {S : Nat → Nat → Prop} {w0 : World} {V : VE D} {B : Bs} {N : Nat} {T : TM} {st : SS} {K : Act → World → Prop} (h : Next S w0 V B N T st K) (X : Bs) : Next S w0 V (B ++ X) N T st K :=
  fun Y a w ha hw => h (X ++ Y) a w (by rwa [← List.append_assoc]) (by rwa [← List.append_assoc])
theorem stepS_sound {C : Ctx} (hC : CtxOk P D C) {call : CallF} (hcall : CallOK P D call) {N : Nat} {ops : Array Oper} {T : TM} {st : SS} {o : Oper} {T' : TM} {st' : SS} (h : stepS C call N ops T st o = some (T', st'))
    {S : Nat → Nat → Prop} {w0 : World} {V : VE D} {B : Bs} {a : Act} {w : World} (hh : ∀ t ∈ st'.tr, t.holds V) (ha : TOK V B N T a) (hw : Rep S w0 V B st w)
    {K : Act → World → Prop} {Q : Exit → Act → World → Prop} (hK : Next S w0 V B N T' st' K) :
    if Region.wanted o (yielded ops a.tmps) then o.wp P a w K Q else K (a.put o.dst undef) w := by
  unfold stepS at h
  split at h
  · rename_i hwant
    rw [wantS_sound hwant ha, if_pos rfl]
    split at h
    · rename_i hp
      split at h
      · rename_i hput
        simp only [Option.some.injEq, Prod.mk.injEq] at h; obtain ⟨rfl, rfl⟩ := h
        obtain ⟨u, hv, hrun⟩ := pureY_sound hC hp hh ha
        exact Oper.wp_value (hrun w) (hK [] _ _ (by simpa using putT_sound hput ha hv) (by simpa using hw.other (pureY_mem hp).1))
      · simp at h
    · split at h
      · rename_i hm
        split at h
        · rename_i hput
          simp only [Option.some.injEq, Prod.mk.injEq] at h; obtain ⟨rfl, rfl⟩ := h
          exact memY_sound hC hcall hm hh ha hw (fun X u w' hrep hv => hK X _ _ (putT_sound hput (ha.mono X) hv) hrep)
        · simp at h
      · simp at h
  · rename_i hwant
    rw [wantS_sound hwant ha, if_neg (by simp)]
    split at h
    · rename_i hput
      simp only [Option.some.injEq, Prod.mk.injEq] at h; obtain ⟨rfl, rfl⟩ := h
      exact hK [] _ _ (by simpa using putT_sound hput ha (u := undef) rfl) (by simpa using hw)
    · simp at h
  · simp at h
theorem opsS_tr {C : Ctx} {call : CallF} (hcall : CallOK P D call) {N : Nat} {ops : Array Oper} : ∀ (l : List Oper) {T : TM} {st : SS} {T' : TM} {st' : SS}, opsS C call N ops l T st = some (T', st') → ∀ t ∈ st.tr, t ∈ st'.tr
  | [], T, st, T', st', h => by simp only [opsS, Option.some.injEq, Prod.mk.injEq] at h; obtain ⟨_, rfl⟩ := h; exact fun _ h => h
  | o :: r, T, st, T', st', h => by
    unfold opsS at h
    split at h
    · rename_i hs
      exact fun t ht => opsS_tr hcall r h t (stepS_tr hcall hs t ht)
    · simp at h
theorem opsS_sound {C : Ctx} (hC : CtxOk P D C) {call : CallF} (hcall : CallOK P D call) {N : Nat} {ops : Array Oper} {S : Nat → Nat → Prop} {w0 : World} {V : VE D} {Q : Exit → Act → World → Prop} :
    ∀ (l : List Oper) {T : TM} {st : SS} {T' : TM} {st' : SS} {B : Bs} {a : Act} {w : World}, opsS C call N ops l T st = some (T', st') → (∀ t ∈ st'.tr, t.holds V) → TOK V B N T a → Rep S w0 V B st w →
      Next S w0 V B N T' st' (Q .normal) → wpList P ops Q l a w
  | [], T, st, T', st', B, a, w, h, hh, ha, hw, hK => by
    simp only [opsS, Option.some.injEq, Prod.mk.injEq] at h; obtain ⟨rfl, rfl⟩ := h
    exact hK [] a w (by simpa using ha) (by simpa using hw)
  | o :: r, T, st, T', st', B, a, w, h, hh, ha, hw, hK => by
    unfold opsS at h
    split at h
    · rename_i T1 st1 hs
      refine wpList_step fun K hrest => ?_
      refine stepS_sound hC hcall hs (fun t ht => hh t (opsS_tr hcall r h t ht)) ha hw ?_
      intro X a' w' ha' hw'
      exact hrest _ _ (opsS_sound hC hcall r h hh ha' hw' (hK.more X))
    · simp at h
theorem takeS_sound {C : Ctx} (hC : CtxOk P D C) {N : Nat} {ops : Array Oper} {listed : Array Bool} {T : TM} {st : SS} : ∀ (l : List Nat) {j : Nat} {T' : TM} {st' : SS}, takeS C N ops listed T st l = some (j, T', st') →
    j ∈ l ∧ st'.mem = st.mem ∧ (∀ t ∈ st.tr, t ∈ st'.tr) ∧ Region.free .any ops listed j = true ∧ ∃ o, ops[j]? = some o ∧
      ∀ (V : VE D) (B : Bs) (a : Act), (∀ t ∈ st'.tr, t.holds V) → TOK V B N T a → ∃ u, Yields P ops o u a ∧ TOK V B N T' (a.put o.dst u)
  | [], j, T', st', h => by simp [takeS] at h
  | i :: r, j, T', st', h => by
    have rest : takeS C N ops listed T st r = some (j, T', st') → _ := fun h => by
      obtain ⟨h1, h2⟩ := takeS_sound hC r h
      exact (⟨List.mem_cons_of_mem i h1, h2⟩ : j ∈ i :: r ∧ _)
    unfold takeS at h
    split at h
    · rename_i o ho
      split at h
      · rename_i hwant
        split at h
        · rename_i st1 v hp
          split at h
          · rename_i T1 hput hfree
            simp only [Option.some.injEq, Prod.mk.injEq] at h; obtain ⟨rfl, rfl, rfl⟩ := h
            refine ⟨by simp, (pureY_mem hp).1, (pureY_mem hp).2, hfree, o, ho, ?_⟩
            intro V B a hh ha
            obtain ⟨u, hv, hrun⟩ := pureY_sound hC hp hh ha
            exact ⟨u, .inl ⟨wantS_sound hwant ha, hrun⟩, putT_sound hput ha hv⟩
          · exact rest h
        · exact rest h
      · rename_i hwant
        split at h
        · rename_i T1 hput hfree
          simp only [Option.some.injEq, Prod.mk.injEq] at h; obtain ⟨rfl, rfl, rfl⟩ := h
          refine ⟨by simp, rfl, fun _ h => h, hfree, o, ho, ?_⟩
          intro V B a hh ha
          exact ⟨undef, .inr ⟨wantS_sound hwant ha, rfl⟩, putT_sound hput ha rfl⟩
        · exact rest h
      · exact rest h
    · exact rest h
theorem loadV_sound {C : Ctx} (hC : CtxOk P D C) {T : TM} {st : SS} {o : Oper} {v : SV} (h : loadV C T st o = some v)
    {S : Nat → Nat → Prop} {w0 : World} {V : VE D} {B : Bs} {N : Nat} {a : Act} {w : World} (ha : TOK V B N T a) (hw : Rep S w0 V B st w) :
    ∃ u, (∀ n, (execOp a.eval o).run P { w with drawn := n } = .ok (.value u) { w with drawn := n }) ∧ v.is V B u := by
  obtain ⟨dst, op, type, pos, after, guard⟩ := o
  unfold loadV at h
  dsimp only at h
  split at h
  · rename_i t x
    split at h
    · rename_i i r k hi hx
      obtain ⟨d, hd, hrow, _⟩ := (hC.ty t i hi).desc
      split at h
      · rename_i hir
        split at h
        · rename_i cs hg
          simp only [Option.some.injEq] at h; subst h
          obtain ⟨b, o, vs, hB, hl, hc, hlen⟩ := hw.get hg
          obtain ⟨b', o', hB', hu⟩ := ha.opnd hx
          rw [hB] at hB'; simp only [Option.some.injEq, Prod.mk.injEq] at hB'; obtain ⟨rfl, rfl⟩ := hB'
          have hrun := fun n => run_loadAt_mid (P := P) { w with drawn := n } b (o + k) t vs d (fun j v hj => (hc j v hj).1) hd (by rw [hrow, hir]) (by rw [(hC.ty t i hi).size, hl.length, hlen])
          refine ⟨.agg vs.toArray, fun n => ?_, vs, hl, rfl⟩
          show ((do pure (Next.value (← Instr.loadAt t (a.eval x)))) : Sem Go.Next).run P { w with drawn := n } = _
          rw [hu]; simp [hrun n]
        · simp at h
      · rename_i hir
        split at h
        · rename_i c hg
          simp only [Option.some.injEq] at h; subst h
          obtain ⟨b, o, vs, hB, hl, hc, hlen⟩ := hw.get hg
          obtain ⟨b', o', hB', hu⟩ := ha.opnd hx
          rw [hB] at hB'; simp only [Option.some.injEq, Prod.mk.injEq] at hB'; obtain ⟨rfl, rfl⟩ := hB'
          match vs, hl with
          | [u], hl =>
            have hrun := fun n => run_loadAt_one (P := P) { w with drawn := n } b (o + k) t u d hd (by rw [hrow, hir]) (hc 0 u rfl).1
            refine ⟨u, fun n => ?_, hl.1⟩
            show ((do pure (Next.value (← Instr.loadAt t (a.eval x)))) : Sem Go.Next).run P { w with drawn := n } = _
            rw [hu]; simp [hrun n]
        · simp at h
    · rename_i i g hi hx
      split at h
      · rename_i q hrow hgl
        split at h
        · rename_i q' g' t' r k hg
          split at h
          · rename_i he
            simp only [Bool.and_eq_true] at he
            have e1 := Nat.eq_of_beq_eq_true he.1
            have e2 := Nat.eq_of_beq_eq_true he.2
            subst e1; subst e2
            simp only [Option.some.injEq] at h; subst h
            obtain ⟨d, hd, hr, _⟩ := (hC.ty t i hi).desc
            obtain ⟨b, o, vs, hB, hl, hc, hlen⟩ := hw.get hg
            match vs, hl with
            | [u], hl =>
              obtain ⟨⟨hq, b', o', hb', hu⟩, _⟩ := hl
              rw [hB] at hq
              simp only [Option.some.injEq, Prod.mk.injEq] at hq
              obtain ⟨rfl, rfl⟩ := hq
              have hx' : a.eval x = .pointer (some ⟨b, 0, none⟩) := ha.opnd hx
              have hrun := fun n => run_loadAt_one (P := P) { w with drawn := n } b 0 t u d hd (by rw [hr, hrow]) (hc 0 u rfl).1
              refine ⟨u, fun n => ?_, b', o', hb', hu⟩
              show ((do pure (Next.value (← Instr.loadAt t (a.eval x)))) : Sem Go.Next).run P { w with drawn := n } = _
              rw [hx']; simp [hrun n]
          · simp at h
        · simp at h
      · simp at h
    · simp at h
  · simp at h
theorem takeL_sound {C : Ctx} {N : Nat} {ops : Array Oper} {listed : Array Bool} {T : TM} {st : SS} : ∀ (l : List Nat) {j : Nat} {T' : TM}, takeL C N ops listed T st l = some (j, T') →
    j ∈ l ∧ ∃ R, Region.free .any ops listed j = true ∧ checkR C.ty ops listed j R = true ∧ checkL listed R = true ∧ ∃ o v, ops[j]? = some o ∧ o.guard = none ∧ loadV C T st o = some v ∧ putT N T o.dst v = some T'
  | [], j, T', h => by simp [takeL] at h
  | i :: r, j, T', h => by
    have rest : takeL C N ops listed T st r = some (j, T') → _ := fun h => by
      obtain ⟨h1, h2⟩ := takeL_sound r h
      exact (⟨List.mem_cons_of_mem i h1, h2⟩ : j ∈ i :: r ∧ _)
    unfold takeL at h
    split at h
    · rename_i o ho
      split at h
      · rename_i v hg hv
        split at h
        · rename_i T1 hput hc
          simp only [Option.some.injEq, Prod.mk.injEq] at h; obtain ⟨rfl, rfl⟩ := h
          simp only [Bool.and_eq_true] at hc
          exact ⟨by simp, _, hc.1.1, hc.1.2, hc.2, o, v, ho, hg, hv, hput⟩
        · exact rest h
      · exact rest h
    · exact rest h
theorem drawS_tr {C : Ctx} (hC : CtxOk P D C) {call : CallF} (hcall : CallOK P D call) {N : Nat} {ops : Array Oper} : ∀ (n : Nat) {listed : Array Bool} {T : TM} {st : SS} {T' : TM} {st' : SS}, drawS C call N ops n listed T st = some (T', st') → ∀ t ∈ st.tr, t ∈ st'.tr
  | 0, listed, T, st, T', st', h => by
    unfold drawS at h
    split at h
    · simp only [Option.some.injEq, Prod.mk.injEq] at h; obtain ⟨_, rfl⟩ := h; exact fun _ h => h
    · simp at h
  | n + 1, listed, T, st, T', st', h => by
    unfold drawS at h
    split at h
    · simp only [Option.some.injEq, Prod.mk.injEq] at h; obtain ⟨_, rfl⟩ := h; exact fun _ h => h
    · split at h
      · rename_i ht
        have := (takeS_sound hC _ ht).2.2.1
        exact fun t htr => drawS_tr hC hcall n h t (this t htr)
      · split at h
        · exact fun t htr => drawS_tr hC hcall n h t htr
        · split at h
          · rename_i res h1
            split at h
            · simp only [Option.some.injEq] at h; subst h
              split at h1
              · split at h1
                · rename_i hs
                  exact fun t htr => drawS_tr hC hcall n h1 t (stepS_tr hcall hs t htr)
                · simp at h1
              · simp at h1
            · simp at h
          · simp at h
theorem drawS_sound {C : Ctx} (hC : CtxOk P D C) {call : CallF} (hcall : CallOK P D call) {N : Nat} {ops : Array Oper} (hns : Region.noSelect ops = true) {S : Nat → Nat → Prop} {w0 : World} {V : VE D}
    {Q : Exit → Act → World → Prop} (hQ : ∀ c a w, ¬ Q (.panic c) a w) (hQo : ∀ a w, ¬ Q .outgrown a w) :
    ∀ (n : Nat) {listed : Array Bool} {T : TM} {st : SS} {T' : TM} {st' : SS} {B : Bs} {a : Act} {w : World}, drawS C call N ops n listed T st = some (T', st') → (∀ t ∈ st'.tr, t.holds V) → TOK V B N T a → Rep S w0 V B st w →
      Next S w0 V B N T' st' (Q .normal) → wpAny P .any ops Q n listed a w
  | 0, listed, T, st, T', st', B, a, w, h, hh, ha, hw, hK => by
    unfold drawS at h
    split at h
    · rename_i hr
      simp only [Option.some.injEq, Prod.mk.injEq] at h; obtain ⟨rfl, rfl⟩ := h
      exact wpAny_done hr (hK [] a w (by simpa using ha) (by simpa using hw)) 0
    · simp at h
  | n + 1, listed, T, st, T', st', B, a, w, h, hh, ha, hw, hK => by
    unfold drawS at h
    split at h
    · rename_i hr
      simp only [Option.some.injEq, Prod.mk.injEq] at h; obtain ⟨rfl, rfl⟩ := h
      exact wpAny_done hr (hK [] a w (by simpa using ha) (by simpa using hw)) _
    · rename_i i r hr
      split at h
      · rename_i j T1 st1 ht
        obtain ⟨hj, hmem, _, hfree, o, ho, hy⟩ := takeS_sound hC _ ht
        have hh1 : ∀ t ∈ st1.tr, t.holds V := fun t htr => hh t (drawS_tr hC hcall n h t htr)
        obtain ⟨u, hyu, ha1⟩ := hy V B a hh1 ha
        refine wpAny_take ho hns hfree (by rw [hr]; simpa using hj) (fun c a w hq => (hQ c _ w hq).elim) hyu ?_
        exact drawS_sound hC hcall hns hQ hQo n h hh ha1 (hw.other hmem) hK
      · split at h
        · rename_i j T1 ht
          obtain ⟨hj, R, hfree, hcR, hcL, o, v, ho, hg, hv, hput⟩ := takeL_sound _ ht
          obtain ⟨u, hrun, hu⟩ := loadV_sound hC hv ha hw
          have hrest := drawS_sound hC hcall hns hQ hQo n h hh (putT_sound hput ha hu) hw hK
          refine wpAny_load hC.ty (v := u) ho (fun j o cs b ho => Region.noSelect_spec hns j o cs b ho) hQ hQo n listed a w (fun k ok hok hki hun hno => Region.free_spec ho hfree k ok hok hki hun hno) (checkR_spec hcR) (checkL_spec hcL) (by rw [hr]; simpa using hj) ⟨by unfold Region.wanted; rw [hg], hrun⟩ hrest
        · split at h
          · rename_i res h1
            split at h
            · rename_i hall
              simp only [Option.some.injEq] at h; subst h
              have hone : ∀ k ∈ i :: r, ∃ o T1 st1, ops[k]? = some o ∧ stepS C call N ops T st o = some (T1, st1) ∧ drawS C call N ops n (listed.setIfInBounds k true) T1 st1 = some (T', st') := by
                intro k hk
                rcases List.mem_cons.1 hk with rfl | hk
                · split at h1
                  · rename_i o ho
                    split at h1
                    · rename_i T1 st1 hs
                      exact ⟨o, T1, st1, ho, hs, h1⟩
                    · simp at h1
                  · simp at h1
                · have h2 := List.all_eq_true.1 hall k hk
                  split at h2
                  · rename_i o ho
                    split at h2
                    · rename_i T1 st1 hs
                      split at h2
                      · rename_i res' hd
                        have := qrsE_eq h2
                        subst this
                        exact ⟨o, T1, st1, ho, hs, hd⟩
                      · simp at h2
                    · simp at h2
                  · simp at h2
              refine wpAny_all hr (by simp) ?_
              intro k hk
              obtain ⟨o, T1, st1, ho, hs, hd⟩ := hone k hk
              have hst := stepS_sound hC hcall hs (fun t htr => hh t (drawS_tr hC hcall n hd t htr)) ha hw (K := wpAny P .any ops Q n (listed.setIfInBounds k true)) (Q := Q) (by
                intro X a' w' ha' hw'
                exact drawS_sound hC hcall hns hQ hQo n hd hh ha' hw' (hK.more X))
              unfold wpOp
              rw [ho]
              dsimp only
              by_cases hwt : Region.wanted o (yielded ops a.tmps) = true
              · rw [if_pos hwt] at hst ⊢; exact .inl hst
              · rw [if_neg hwt] at hst ⊢; exact hst
            · simp at h
          · simp at h
theorem iterS_tr {f : TM → SS → Option (TM × SS × Ex)} (hf : ∀ T st T' st' ex, f T st = some (T', st', ex) → ∀ t ∈ st.tr, t ∈ st'.tr) : ∀ (n : Nat) {T : TM} {st : SS} {T' : TM} {st' : SS} {ex : Ex}, iterS f n T st = some (T', st', ex) → ∀ t ∈ st.tr, t ∈ st'.tr
  | 0, _, _, _, _, _, h => by simp [iterS] at h
  | n + 1, T, st, T', st', ex, h => by
    unfold iterS at h
    split at h
    · rename_i T1 st1 h1
      exact fun t ht => iterS_tr hf n h t (hf _ _ _ _ _ h1 t ht)
    · exact hf _ _ _ _ _ h
theorem codeS_tr {C : Ctx} (hC : CtxOk P D C) {call : CallF} (hcall : CallOK P D call) {N m : Nat} : ∀ (c : Code) {T : TM} {st : SS} {T' : TM} {st' : SS} {ex : Ex}, codeS C call N m c T st = some (T', st', ex) → ∀ t ∈ st.tr, t ∈ st'.tr := by
  intro c
  induction c with
  | skip => intro T st T' st' ex h; simp only [codeS, Option.some.injEq, Prod.mk.injEq] at h; obtain ⟨_, rfl, _⟩ := h; exact fun _ h => h
  | label l => intro T st T' st' ex h; simp only [codeS, Option.some.injEq, Prod.mk.injEq] at h; obtain ⟨_, rfl, _⟩ := h; exact fun _ h => h
  | exit l => intro T st T' st' ex h; simp only [codeS, Option.some.injEq, Prod.mk.injEq] at h; obtain ⟨_, rfl, _⟩ := h; exact fun _ h => h
  | ret => intro T st T' st' ex h; simp only [codeS, Option.some.injEq, Prod.mk.injEq] at h; obtain ⟨_, rfl, _⟩ := h; exact fun _ h => h
  | goto l => intro T st T' st' ex h; simp [codeS] at h
  | refuse l => intro T st T' st' ex h; simp [codeS] at h
  | rangeFunc f ps a b _ _ => intro T st T' st' ex h; simp [codeS] at h
  | scope b _ => intro T st T' st' ex h; simp [codeS] at h
  | region id ops draw =>
    intro T st T' st' ex h
    unfold codeS regS at h
    split at h
    · split at h
      · rename_i ho
        simp only [Option.some.injEq, Prod.mk.injEq] at h; obtain ⟨_, rfl, _⟩ := h
        exact opsS_tr hcall _ ho
      · simp at h
    · split at h
      · split at h
        · rename_i ho
          simp only [Option.some.injEq, Prod.mk.injEq] at h; obtain ⟨_, rfl, _⟩ := h
          exact drawS_tr hC hcall _ ho
        · simp at h
      · simp at h
  | seq a b iha ihb =>
    intro T st T' st' ex h
    unfold codeS at h
    split at h
    · rename_i h1
      exact fun t ht => ihb h t (iha h1 t ht)
    · exact iha h
  | cond c x y ihx ihy =>
    intro T st T' st' ex h
    unfold codeS at h
    split at h
    · exact ihx h
    · exact ihy h
    · simp at h
  | block id c ih =>
    intro T st T' st' ex h
    unfold codeS at h
    split at h
    · rename_i h1
      split at h <;> (simp only [Option.some.injEq, Prod.mk.injEq] at h; obtain ⟨_, rfl, _⟩ := h; exact ih h1)
    · exact ih h
  | loop c ih =>
    intro T st T' st' ex h
    unfold codeS at h
    exact iterS_tr (fun _ _ _ _ _ h => ih h) m h
/-- the code's soundness -/
def SoundC (P : Program) (S : Nat → Nat → Prop) (w0 : World) (V : VE D) (N : Nat) (c : Code) (T : TM) (st : SS) (T' : TM) (st' : SS) (ex : Ex) : Prop :=
  (∀ t ∈ st'.tr, t.holds V) → ∀ (B : Bs) (a : Act) (w : World), TOK V B N T a → Rep S w0 V B st w → ∀ (Q : Exit → Act → World → Prop), Next S w0 V B N T' st' (Q ex.of) → c.wp P Q a w
theorem iterS_sound {f : TM → SS → Option (TM × SS × Ex)} {S : Nat → Nat → Prop} {w0 : World} {V : VE D} {N : Nat} {c : Code} (hf : ∀ T st T' st' ex, f T st = some (T', st', ex) → SoundC P S w0 V N c T st T' st' ex)
    (ht : ∀ T st T' st' ex, f T st = some (T', st', ex) → ∀ t ∈ st.tr, t ∈ st'.tr) : ∀ (n : Nat) {T : TM} {st : SS} {T' : TM} {st' : SS} {ex : Ex}, iterS f n T st = some (T', st', ex) → (∀ t ∈ st'.tr, t.holds V) →
      ∀ (B : Bs) (a : Act) (w : World), TOK V B N T a → Rep S w0 V B st w → ∀ (Q : Exit → Act → World → Prop), Next S w0 V B N T' st' (Q ex.of) → Code.rounds P c Q n a w
  | 0, _, _, _, _, _, h => by simp [iterS] at h
  | n + 1, T, st, T', st', ex, h => by
    intro hh B a w ha hw Q hK
    rw [rounds_succ]
    unfold iterS at h
    split at h
    · rename_i T1 st1 h1
      refine hf _ _ _ _ _ h1 (fun t htr => hh t (iterS_tr ht n h t htr)) B a w ha hw _ ?_
      intro X a' w' ha' hw'
      show Code.rounds P c Q n a' w'
      exact iterS_sound hf ht n h hh _ a' w' ha' hw' Q (hK.more X)
    · rename_i hne
      refine hf _ _ _ _ _ h hh B a w ha hw _ ?_
      intro X a' w' ha' hw'
      have := hK X a' w' ha' hw'
      cases ex with
      | normal => exact (hne _ _ h).elim
      | exit id => exact this
      | ret => exact this
theorem codeS_sound {C : Ctx} (hC : CtxOk P D C) (hm : P.follows .mixedOrders = true) {call : CallF} (hcall : CallOK P D call) {N m : Nat} {S : Nat → Nat → Prop} {w0 : World} {V : VE D} :
    ∀ (c : Code) {T : TM} {st : SS} {T' : TM} {st' : SS} {ex : Ex}, codeS C call N m c T st = some (T', st', ex) → SoundC P S w0 V N c T st T' st' ex := by
  intro c
  induction c with
  | skip =>
    intro T st T' st' ex h hh B a w ha hw Q hK
    simp only [codeS, Option.some.injEq, Prod.mk.injEq] at h; obtain ⟨rfl, rfl, rfl⟩ := h
    exact wp_skip (hK [] a w (by simpa using ha) (by simpa using hw))
  | label l =>
    intro T st T' st' ex h hh B a w ha hw Q hK
    simp only [codeS, Option.some.injEq, Prod.mk.injEq] at h; obtain ⟨rfl, rfl, rfl⟩ := h
    exact wp_label (hK [] a w (by simpa using ha) (by simpa using hw))
  | exit l =>
    intro T st T' st' ex h hh B a w ha hw Q hK
    simp only [codeS, Option.some.injEq, Prod.mk.injEq] at h; obtain ⟨rfl, rfl, rfl⟩ := h
    exact wp_exit (hK [] a w (by simpa using ha) (by simpa using hw))
  | ret =>
    intro T st T' st' ex h hh B a w ha hw Q hK
    simp only [codeS, Option.some.injEq, Prod.mk.injEq] at h; obtain ⟨rfl, rfl, rfl⟩ := h
    exact wp_ret (hK [] a w (by simpa using ha) (by simpa using hw))
  | goto l => intro T st T' st' ex h; simp [codeS] at h
  | refuse l => intro T st T' st' ex h; simp [codeS] at h
  | rangeFunc f ps a b _ _ => intro T st T' st' ex h; simp [codeS] at h
  | scope b _ => intro T st T' st' ex h; simp [codeS] at h
  | region id ops draw =>
    intro T st T' st' ex h hh B a w ha hw Q hK
    unfold codeS regS at h
    split at h
    · split at h
      · rename_i ho
        simp only [Option.some.injEq, Prod.mk.injEq] at h; obtain ⟨rfl, rfl, rfl⟩ := h
        exact wp_region_list (opsS_sound hC hcall _ ho hh ha hw hK)
      · simp at h
    · split at h
      · rename_i hns
        split at h
        · rename_i ho
          simp only [Option.some.injEq, Prod.mk.injEq] at h; obtain ⟨rfl, rfl, rfl⟩ := h
          refine wp_mono (Q := fun e a w => match e with | .normal => Q .normal a w | _ => False) (wp_region_any hm ?_) (fun e a w hq => by cases e <;> first | exact hq | exact hq.elim)
          exact drawS_sound hC hcall hns (fun _ _ _ h => h) (fun _ _ h => h) _ ho hh ha (hw.drawn _) hK
        · simp at h
      · simp at h
  | seq x y ihx ihy =>
    intro T st T' st' ex h hh B a w ha hw Q hK
    unfold codeS at h
    refine wp_seq ?_
    split at h
    · rename_i T1 st1 h1
      refine ihx h1 (fun t ht => hh t (codeS_tr hC hcall y h t ht)) B a w ha hw _ ?_
      intro X a' w' ha' hw'
      exact ihy h hh _ a' w' ha' hw' Q (hK.more X)
    · rename_i hne
      refine ihx h hh B a w ha hw _ ?_
      intro X a' w' ha' hw'
      have := hK X a' w' ha' hw'
      cases ex with
      | normal => exact (hne _ _ h).elim
      | exit id => exact this
      | ret => exact this
  | cond c x y ihx ihy =>
    intro T st T' st' ex h hh B a w ha hw Q hK
    unfold codeS at h
    split at h
    · rename_i hc
      have hv : a.eval c = .bool true := ha.opnd hc
      exact wp_cond_true hv (ihx h hh B a w ha hw Q hK)
    · rename_i hc
      have hv : a.eval c = .bool false := ha.opnd hc
      exact wp_cond_false hv (ihy h hh B a w ha hw Q hK)
    · simp at h
  | block id c ih =>
    intro T st T' st' ex h hh B a w ha hw Q hK
    unfold codeS at h
    refine wp_block ?_
    split at h
    · rename_i T1 st1 id' h1
      split at h
      · rename_i hid
        have hid := Nat.eq_of_beq_eq_true hid
        subst hid
        simp only [Option.some.injEq, Prod.mk.injEq] at h; obtain ⟨rfl, rfl, rfl⟩ := h
        refine ih h1 hh B a w ha hw _ ?_
        intro X a' w' ha' hw'
        have := hK X a' w' ha' hw'
        show Exit.inBlock id' Q (.exit id') a' w'
        simp only [Exit.inBlock, if_true]; exact this
      · rename_i hid
        have hid := Nat.ne_of_beq_eq_false hid
        simp only [Option.some.injEq, Prod.mk.injEq] at h; obtain ⟨rfl, rfl, rfl⟩ := h
        refine ih h1 hh B a w ha hw _ ?_
        intro X a' w' ha' hw'
        have := hK X a' w' ha' hw'
        show Exit.inBlock id Q (.exit id') a' w'
        simp only [Exit.inBlock, if_neg hid]; exact this
    · rename_i hne
      refine ih h hh B a w ha hw _ ?_
      intro X a' w' ha' hw'
      have := hK X a' w' ha' hw'
      cases ex with
      | normal => exact this
      | exit id => exact (hne _ _ _ h).elim
      | ret => exact this
  | loop c ih =>
    intro T st T' st' ex h hh B a w ha hw Q hK
    unfold codeS at h
    exact wp_loop_rounds m (iterS_sound (fun _ _ _ _ _ h => ih h) (fun _ _ _ _ _ h => codeS_tr hC hcall c h) m h hh B a w ha hw Q hK)
end
end Go.Proofs.YtnmkmbjbaagojaaGreatDoor
