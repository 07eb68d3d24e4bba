/- A part of the proof of laws.FnPairUneven. -/
import Derived.Test.YtnmkmbjbaagojaaGreatDoorK06
import Derived.KernelRfl
namespace Go.Proofs.YtnmkmbjbaagojaaGreatDoor
open Go
set_option maxRecDepth 100000
set_option linter.unusedVariables false
set_option linter.unusedSimpArgs false
def resOne (C : Ctx) (T : TM) (st : SS) : ResultVar → Option SA
  | .tmp t => match T.get t with
    | some (.a x) => some x
    | _ => none
  | .cell p t => match T.get p, lk C.ty t with
    | some (.a (.c (.ptr r k))), some i => match i.row with
      | true => match getM st.mem r k i.size with
        | some cs => some (.agg cs)
        | none => none
      | false => match getM st.mem r k 1 with
        | some [c] => some (.c c)
        | _ => none
    | _, _ => none
def resList (C : Ctx) (T : TM) (st : SS) : List ResultVar → Option SV
  | [] => some (.tup [])
  | [x] => match resOne C T st x with
    | some a => some (.a a)
    | none => none
  | [x, y] => match resOne C T st x, resOne C T st y with
    | some a, some b => some (.tup [a, b])
    | _, _ => none
  | [x, y, z] => match resOne C T st x, resOne C T st y, resOne C T st z with
    | some a, some b, some c => some (.tup [a, b, c])
    | _, _, _ => none
  | [x, y, z, q] => match resOne C T st x, resOne C T st y, resOne C T st z, resOne C T st q with
    | some a, some b, some c, some d => some (.tup [a, b, c, d])
    | _, _, _, _ => none
  | _ => none
def argsT : Nat → List SV → List (Nat × SV)
  | _, [] => []
  | k, v :: vs => (k, v) :: argsT (k + 1) vs
/-- a call: of a leaf, or entered -/
def callS (C : Ctx) (lo : Nat → Nat → Nat → Nat → Bool) (prs : List (Nat × PrimS)) (m : Nat) : Nat → CallF
  | 0, _, _, _ => none
  | n + 1, f, vs, st => match lk prs f with
    | some p => primS lo p vs st
    | none => match lk C.fn f with
      | some fn => match fn.body with
        | some c => match Nat.ble vs.length fn.ntmps with
          | true => match codeS C (callS C lo prs m n) fn.ntmps m c (mkT (argsT 0 vs)) st with
            | some (T', st', .normal) => match resList C T' st' fn.results.toList with
              | some v => some (st', v)
              | none => none
            | some (T', st', .ret) => match resList C T' st' fn.results.toList with
              | some v => some (st', v)
              | none => none
            | _ => none
          | false => none
        | none => none
      | none => none
section
variable {D : Dom} {P : Program}
def resRun (tmps : Array Value) : ResultVar → Sem Value
  | .tmp t => pure (tmps.getD t undef)
  | .cell a t => do loadVar t (← asAddr (tmps.getD a undef))
theorem resOne_sound {C : Ctx} (hC : CtxOk P D C) {T : TM} {st : SS} {rv : ResultVar} {x : SA} (h : resOne C T st rv = some x) {S : Nat → Nat → Prop} {w0 : World} {V : VE D} {B : Bs} {N : Nat} {a : Act} {w : World}
    (ha : TOK V B N T a) (hw : Rep S w0 V B st w) : ∃ u, x.is V B u ∧ (resRun a.tmps rv).run P w = .ok u w := by
  unfold resOne at h
  split at h
  · rename_i t
    split at h
    · rename_i y hl
      simp only [Option.some.injEq] at h; subst h
      obtain ⟨u, h1, h2⟩ := ha.look t _ hl
      refine ⟨u, h2, ?_⟩
      show Result.ok (a.tmps.getD t undef) w = _
      rw [Array.getD_eq_getD_getElem?, h1]; rfl
    · simp at h
  · rename_i p t
    split at h
    · rename_i r k i hl hi
      obtain ⟨u, h1, ⟨b, o, hB, rfl⟩⟩ := ha.look p _ hl
      obtain ⟨d, hd, hrow, _⟩ := (hC.ty t i hi).desc
      have hg0 : a.tmps.getD p undef = .pointer (some ⟨b, o + k, none⟩) := by rw [Array.getD_eq_getD_getElem?, h1]; rfl
      split at h
      · rename_i hir
        split at h
        · rename_i cs hg
          simp only [Option.some.injEq] at h; subst h
          obtain ⟨b', o', vs, hB', hl', hc, hlen⟩ := hw.get hg
          rw [hB] at hB'; simp only [Option.some.injEq, Prod.mk.injEq] at hB'; obtain ⟨rfl, rfl⟩ := hB'
          refine ⟨.agg vs.toArray, ⟨vs, hl', rfl⟩, ?_⟩
          have hrun := run_loadVar_mid (P := P) w b (o + k) t vs d (fun j v hj => (hc j v hj).1) hd (by rw [hrow, hir]) (by rw [(hC.ty t i hi).size, hl'.length, hlen])
          simp [resRun, hg0, asAddr, hrun, -Array.getD_eq_getD_getElem?]
        · simp at h
      · rename_i hir
        split at h
        · rename_i c hg
          simp only [Option.some.injEq] at h; subst h
          obtain ⟨b', o', vs, hB', hl', hc, hlen⟩ := hw.get hg
          rw [hB] at hB'; simp only [Option.some.injEq, Prod.mk.injEq] at hB'; obtain ⟨rfl, rfl⟩ := hB'
          match vs, hl' with
          | [u], hl' =>
            refine ⟨u, hl'.1, ?_⟩
            have hrun := run_loadAt_one (P := P) w b (o + k) t u d hd (by rw [hrow, hir]) (hc 0 u rfl).1
            have hrun : (loadVar t ⟨b, o + k, none⟩).run P w = .ok u w := by simpa [Instr.loadAt, Instr.sureAddr] using hrun
            simp [resRun, hg0, asAddr, hrun, -Array.getD_eq_getD_getElem?]
        · simp at h
    · simp at h
theorem results_eq (fn : Func) (tmps : Array Value) : results fn tmps = (do let vs ← fn.results.mapM (resRun tmps); pure (if h : vs.size = 1 then vs[0] else .tuple vs)) := by
  unfold results
  rfl
theorem resList_sound {C : Ctx} (hC : CtxOk P D C) {T : TM} {st : SS} {fn : Func} {v : SV} (h : resList C T st fn.results.toList = some v) {S : Nat → Nat → Prop} {w0 : World} {V : VE D} {B : Bs} {N : Nat} {a : Act} {w : World}
    (ha : TOK V B N T a) (hw : Rep S w0 V B st w) : ∃ u, v.is V B u ∧ (results fn a.tmps).run P w = .ok u w := by
  rw [results_eq]
  obtain ⟨l, hl⟩ : ∃ l, fn.results = l.toArray := ⟨fn.results.toList, by simp⟩
  rw [hl] at h ⊢
  simp only at h
  unfold resList at h
  split at h
  · simp only [Option.some.injEq] at h; subst h
    exact ⟨.tuple #[], ⟨[], trivial, rfl⟩, by simp⟩
  · rename_i x
    split at h
    · rename_i y hx
      simp only [Option.some.injEq] at h; subst h
      obtain ⟨u, hu, hr⟩ := resOne_sound hC hx ha hw
      exact ⟨u, hu, by simp [hr]⟩
    · simp at h
  · rename_i x y
    split at h
    · rename_i p q hx hy
      simp only [Option.some.injEq] at h; subst h
      obtain ⟨u, hu, hr⟩ := resOne_sound hC hx ha hw
      obtain ⟨u', hu', hr'⟩ := resOne_sound hC hy ha hw
      exact ⟨.tuple #[u, u'], ⟨[u, u'], ⟨hu, hu', trivial⟩, rfl⟩, by simp [hr, hr']⟩
    · simp at h
  · rename_i x y z
    split at h
    · rename_i p q s hx hy hz
      simp only [Option.some.injEq] at h; subst h
      obtain ⟨u, hu, hr⟩ := resOne_sound hC hx ha hw
      obtain ⟨u', hu', hr'⟩ := resOne_sound hC hy ha hw
      obtain ⟨u'', hu'', hr''⟩ := resOne_sound hC hz ha hw
      exact ⟨.tuple #[u, u', u''], ⟨[u, u', u''], ⟨hu, hu', hu'', trivial⟩, rfl⟩, by simp [hr, hr', hr'']⟩
    · simp at h
  · rename_i x y z q
    split at h
    · rename_i p q s s4 hx hy hz hq
      simp only [Option.some.injEq] at h; subst h
      obtain ⟨u, hu, hr⟩ := resOne_sound hC hx ha hw
      obtain ⟨u', hu', hr'⟩ := resOne_sound hC hy ha hw
      obtain ⟨u'', hu'', hr''⟩ := resOne_sound hC hz ha hw
      obtain ⟨u4, hu4, hr4⟩ := resOne_sound hC hq ha hw
      exact ⟨.tuple #[u, u', u'', u4], ⟨[u, u', u'', u4], ⟨hu, hu', hu'', hu4, trivial⟩, rfl⟩, by simp [hr, hr', hr'', hr4]⟩
    · simp at h
  · simp at h
theorem argsT_lk {V : VE D} {B : Bs} : ∀ (k : Nat) {vs : List SV} {us : List Value}, SVs V B vs us → ∀ t v, lk (argsT k vs) t = some v → ∃ u, k ≤ t ∧ us[t - k]? = some u ∧ v.is V B u
  | k, [], [], _, t, v, h => by simp [argsT, lk] at h
  | k, x :: vs, u :: us, hs, t, v, h => by
    simp only [argsT, lk] at h
    split at h
    · rename_i e
      have e := Nat.eq_of_beq_eq_true e
      subst e
      simp only [Option.some.injEq] at h; subst h
      exact ⟨u, Nat.le_refl _, by simp, hs.1⟩
    · rename_i e
      obtain ⟨u', h1, h2, h3⟩ := argsT_lk (k + 1) hs.2 t v h
      refine ⟨u', by omega, ?_, h3⟩
      rw [show t - k = (t - (k + 1)) + 1 by omega]; simpa using h2
  | _, [], _ :: _, hs, _, _, _ => hs.elim
  | _, _ :: _, [], hs, _, _, _ => hs.elim
theorem callS_ok {C : Ctx} (hC : CtxOk P D C) (hm : P.follows .mixedOrders = true) {lo : Nat → Nat → Nat → Nat → Bool} (hlo : ∀ a b c d, lo a b c d = true → D.litOk a b c d = true) {prs : List (Nat × PrimS)}
    (hprs : ∀ f p, lk prs f = some p → PrimOK P D f p ∧ ∃ g, P.funcs[f]? = some g ∧ g.name ≠ "runtime.NumGoroutine" ∧ g.body.isSome = true) (m : Nat) : ∀ n, CallOK P D (callS C lo prs m n)
  | 0 => ⟨fun _ _ _ _ _ h => by simp [callS] at h, fun _ _ _ _ _ h => by simp [callS] at h, fun _ _ _ _ _ h => by simp [callS] at h⟩
  | n + 1 => by
    have ih := callS_ok hC hm hlo hprs m n
    -- what a call that is entered comes to
    have key : ∀ f vs st st' v, callS C lo prs m (n + 1) f vs st = some (st', v) → (∃ p, lk prs f = some p ∧ primS lo p vs st = some (st', v)) ∨
        ∃ fn c T' ex, lk C.fn f = some fn ∧ fn.body = some c ∧ vs.length ≤ fn.ntmps ∧ codeS C (callS C lo prs m n) fn.ntmps m c (mkT (argsT 0 vs)) st = some (T', st', ex) ∧ (ex = .normal ∨ ex = .ret) ∧ resList C T' st' fn.results.toList = some v := by
      intro f vs st st' v h
      unfold callS at h
      split at h
      · rename_i p hp; exact .inl ⟨p, hp, h⟩
      · split at h
        · rename_i fn hfn
          split at h
          · rename_i c hc
            split at h
            · rename_i hle
              split at h
              · rename_i T' st1 hcode
                split at h
                · rename_i r hr
                  simp only [Option.some.injEq, Prod.mk.injEq] at h; obtain ⟨rfl, rfl⟩ := h
                  exact .inr ⟨fn, c, T', .normal, hfn, hc, Nat.le_of_ble_eq_true hle, hcode, .inl rfl, hr⟩
                · simp at h
              · rename_i T' st1 hcode
                split at h
                · rename_i r hr
                  simp only [Option.some.injEq, Prod.mk.injEq] at h; obtain ⟨rfl, rfl⟩ := h
                  exact .inr ⟨fn, c, T', .ret, hfn, hc, Nat.le_of_ble_eq_true hle, hcode, .inr rfl, hr⟩
                · simp at h
              · simp at h
            · simp at h
          · simp at h
        · simp at h
    refine ⟨?_, ?_, ?_⟩
    · intro f vs st st' v h
      rcases key f vs st st' v h with ⟨p, hp, _⟩ | ⟨fn, c, T', ex, hfn, hc, _⟩
      · exact (hprs f p hp).2
      · obtain ⟨h1, h2⟩ := hC.fn f fn hfn
        exact ⟨fn, h1, h2, by rw [hc]; rfl⟩
    · intro f vs st st' v h
      rcases key f vs st st' v h with ⟨p, hp, h⟩ | ⟨fn, c, T', ex, hfn, hc, _, hcode, _⟩
      · exact primS_tr h
      · exact codeS_tr hC ih c hcode
    · intro f vs st st' v h S w0 V B w us hw hus hh
      rcases key f vs st st' v h with ⟨p, hp, h⟩ | ⟨fn, c, T', ex, hfn, hc, hle, hcode, hex, hres⟩
      · exact primS_sound hlo (hprs f p hp).1 h hw hus hh
      · have hul := hus.length
        refine calls_of_wp (hC.fn f fn hfn).1 hc ?_
        refine codeS_sound hC hm ih c hcode hh B _ w ?_ hw _ ?_
        · refine ⟨by simp; omega, ?_, rfl⟩
          intro t v' hl
          obtain ⟨u, _, h2, h3⟩ := argsT_lk 0 hus t v' (by rw [← mkT_get]; exact hl)
          refine ⟨u, ?_, h3⟩
          have ht : t < us.length := (List.getElem?_eq_some_iff.mp (by simpa using h2)).1
          show (us.toArray ++ Array.replicate _ undef)[t]? = some u
          rw [Array.getElem?_append_left (by simpa using ht)]
          simpa using h2
        · intro X a w' ha hw'
          obtain ⟨u, hu, hr⟩ := resList_sound hC hres ha hw'
          have : a.defers = [] ∧ ∃ v, (results fn a.tmps).run P w' = .ok v w' ∧ ∃ u' X', Ending.returned v = .returned u' ∧ Rep S w0 V (B ++ X') st' w' ∧ SV.is V (B ++ X') ‹SV› u' :=
            ⟨ha.defers, u, hr, u, X, rfl, hw', hu⟩
          rcases hex with rfl | rfl
          · exact this
          · exact this
end
def tyCheck (P : Program) (t : Nat) (i : TyI) : Bool :=
  match P.info? t, P.underlying t with
  | some inf, some d =>
    Nat.beq inf.size i.size && ((d.isRow == i.row) &&
    ((match i.ik with
      | none => true
      | some k => match d with
        | .int k' => decide (k' = k)
        | _ => false) &&
    ((match i.arr with
      | none => true
      | some (n, sz) => match d with
        | .array n' e => Nat.beq n' n && (Nat.blt 1 n && match P.info? e with
          | some j => Nat.beq j.size sz
          | none => false)
        | _ => false) &&
    (match d with
      | .struct fs => Nat.beq i.fields.length fs.size && i.fields.zipIdx.all fun p => match p.1 with
          | none => true
          | some (off, s) => match fs[p.2]? with
            | some fd => Nat.beq fd.offset off && (Nat.blt 0 s && match P.info? fd.type with
              | some j => Nat.beq j.size s
              | none => false)
            | none => false
      | _ => i.fields.isEmpty))))
  | _, _ => false
def slF (P : Program) (t : Nat) : Option (Nat × Nat × List Value) :=
  match P.underlying t with
  | some (.slice e) => match P.info? e with
    | some inf => match inf.zero with
      | some z => some (inf.size, inf.bytes, z.cells.toList)
      | none => none
    | none => none
  | _ => none
def tyCheck2 (P : Program) (t : Nat) (i : TyI) : Bool :=
  match P.info? t, P.underlying t with
  | some inf, some d => Nat.beq (kdOf d) i.kd &&
     ((match i.pe with
       | none => true
       | some sz => match d with
         | .pointer e => (match P.info? e with | some j => Nat.beq j.size sz | none => false)
         | _ => false) &&
     ((!i.cmp || inf.comparable) &&
     ((i.ms.all fun p => match inf.methods.find? (·.name == p.1) with
         | some m => match m.path.toList, m.func with
           | [], some (f, true) => Nat.beq f p.2
           | _, _ => false
         | none => false) &&
     (match i.sl with | none => true | some (sz, _, z) => Nat.beq z.length sz))))
  | _, _ => false
theorem lkS_mem {α : Type} : ∀ {l : List (String × α)} {k : String} {x : α}, lkS l k = some x → (k, x) ∈ l
  | [], _, _, h => by simp [lkS] at h
  | (j, y) :: r, k, x, h => by
    unfold lkS at h
    split at h
    · rename_i e
      have e := of_decide_eq_true e
      subst e
      simp only [Option.some.injEq] at h; subst h
      simp
    · exact List.mem_cons_of_mem _ (lkS_mem h)
theorem tyCheck_ok {P : Program} {t : Nat} {i : TyI} (h : tyCheck P t i = true) (h' : tyCheck2 P t i = true) (hsl : slF P t = i.sl) (hz : ((P.info? t).bind (·.zero)).map (·.cells) = some i.zero.toArray) : TyOk P t i := by
  unfold tyCheck2 at h'
  split at h'
  case h_2 => simp at h'
  rename_i inf0 d0 hinf0 hd0
  simp only [Bool.and_eq_true] at h'
  obtain ⟨k1, k2, k3, k4, k5⟩ := h'
  unfold tyCheck at h
  split at h
  · rename_i inf d hinf hd
    simp only [Bool.and_eq_true] at h
    obtain ⟨h1, h2, h3, h4, h5⟩ := h
    refine ⟨by rw [hinf]; simp [Nat.eq_of_beq_eq_true h1], ⟨d, hd, by simpa using h2, ?_, ?_, ?_⟩, ?_, ?_, ?_, ?_, ?_, ?_, ?_⟩
    · intro k hk
      rw [hk] at h3
      dsimp only at h3
      split at h3
      · rw [of_decide_eq_true h3]
      · simp at h3
    · intro n sz ha
      rw [ha] at h4
      dsimp only at h4
      split at h4
      · rename_i n' e
        simp only [Bool.and_eq_true] at h4
        obtain ⟨e1, e2, e3⟩ := h4
        split at e3
        · rename_i j hj
          have e1 := Nat.eq_of_beq_eq_true e1
          subst e1
          exact ⟨by simp [Nat.blt] at e2; omega, e, rfl, by rw [hj]; simp [Nat.eq_of_beq_eq_true e3]⟩
        · simp at e3
      · simp at h4
    · intro f off s hf
      split at h5
      · rename_i fs
        simp only [Bool.and_eq_true] at h5
        have := List.all_eq_true.mp h5.2 (some (off, s), f) (by
          rw [List.mk_mem_zipIdx_iff_getElem?]; exact hf)
        dsimp only at this
        split at this
        · rename_i fd hfd
          simp only [Bool.and_eq_true] at this
          obtain ⟨e1, e2, e3⟩ := this
          split at e3
          · rename_i j hj
            refine ⟨fs, fd, rfl, hfd, Nat.eq_of_beq_eq_true e1, by rw [hj]; simp [Nat.eq_of_beq_eq_true e3], ?_⟩
            have : 0 < s := by simp [Nat.blt] at e2; omega
            omega
          · simp at e3
        · simp at this
      · have : i.fields = [] := by simpa using h5
        rw [this] at hf; simp at hf
    · cases hq : (P.info? t).bind (·.zero) with
      | none => rw [hq] at hz; simp at hz
      | some z => rw [hq] at hz; exact ⟨z, rfl, by simpa using hz⟩
    · intro fs hfs
      rw [hfs] at hd
      simp only [Option.some.injEq] at hd
      subst hd
      simp only [Bool.and_eq_true] at h5
      exact Nat.eq_of_beq_eq_true h5.1
    · intro d' hd'
      rw [hd0] at hd'; simp only [Option.some.injEq] at hd'; subst hd'
      exact Nat.eq_of_beq_eq_true k1
    · intro sz by' z hs
      rw [hs] at hsl k5
      dsimp only at k5
      unfold slF at hsl
      split at hsl
      · rename_i e he
        split at hsl
        · rename_i inf1 hinf1
          split at hsl
          · rename_i zv hzv
            simp only [Option.some.injEq, Prod.mk.injEq] at hsl
            obtain ⟨rfl, rfl, rfl⟩ := hsl
            exact ⟨e, inf1, zv, he, hinf1, rfl, rfl, hzv, by simp, Nat.eq_of_beq_eq_true k5⟩
          · simp at hsl
        · simp at hsl
      · simp at hsl
    · intro sz hs
      rw [hs] at k2
      dsimp only at k2
      split at k2
      · rename_i e
        split at k2
        · rename_i j hj
          exact ⟨e, hd0, by rw [hj]; simp [Nat.eq_of_beq_eq_true k2]⟩
        · simp at k2
      · simp at k2
    · intro hc
      rw [hc] at k3
      exact ⟨inf0, hinf0, by simpa using k3⟩
    · intro n f hn
      have := List.all_eq_true.mp k4 _ (lkS_mem hn)
      dsimp only at this
      split at this
      · rename_i m hm
        split at this
        · rename_i f' hp hf
          have := Nat.eq_of_beq_eq_true this
          subst this
          exact ⟨inf0, m, hinf0, hm, by rw [← Array.toList_inj]; exact hp, hf⟩
        · simp at this
      · simp at this
  · simp at h
theorem lk_mem {α : Type} : ∀ {l : List (Nat × α)} {k : Nat} {x : α}, lk l k = some x → (k, x) ∈ l
  | [], _, _, h => by simp [lk] at h
  | (j, y) :: r, k, x, h => by
    unfold lk at h
    split at h
    · rename_i e
      have e := Nat.eq_of_beq_eq_true e
      subst e
      simp only [Option.some.injEq] at h; subst h
      simp
    · exact List.mem_cons_of_mem _ (lk_mem h)
theorem map_eq_mem {α β : Type} {f g : α → β} : ∀ {l : List α}, l.map f = l.map g → ∀ x ∈ l, f x = g x
  | [], _, x, hx => by simp at hx
  | y :: l, h, x, hx => by
    simp only [List.map_cons, List.cons.injEq] at h
    rcases List.mem_cons.mp hx with rfl | hx
    · exact h.1
    · exact map_eq_mem h.2 x hx
theorem ctxOk {P : Program} {D : Dom} {C : Ctx} (h1 : C.ty.all (fun p => tyCheck P p.1 p.2 && tyCheck2 P p.1 p.2) = true) (h1' : C.ty.map (fun p => slF P p.1) = C.ty.map (fun p => p.2.sl)) (h2 : C.ty.map (fun p => ((P.info? p.1).bind (·.zero)).map (·.cells)) = C.ty.map (fun p => some p.2.zero.toArray))
    (h3 : C.fn.map (fun p => P.funcs[p.1]?) = C.fn.map (fun p => some p.2)) (h4 : C.fn.all (fun p => !(p.2.name == "runtime.NumGoroutine")) = true)
    (h5 : ∀ f k as rs, lk C.ex f = some (k, as, rs) → ∀ ns : List Int, ns.length = as.length → D.pfn k ns → (D.pf k ns).length = rs.length ∧ ∀ w, (callFunc f (zipI as ns).toArray).run P w = .ok (.value (mkVal (zipI rs (D.pf k ns)))) w)
    (h6 : ∀ k ns ys, C.fd k ns = some ys → D.pfn k ns ∧ D.pf k ns = ys) : CtxOk P D C where
  ty := fun t i h => by
    have h0 := List.all_eq_true.mp h1 _ (lk_mem h)
    simp only [Bool.and_eq_true] at h0
    exact tyCheck_ok h0.1 h0.2 (map_eq_mem h1' _ (lk_mem h)) (map_eq_mem h2 _ (lk_mem h))
  fn := fun f g h => ⟨map_eq_mem h3 _ (lk_mem h), by have := List.all_eq_true.mp h4 _ (lk_mem h); simpa using this⟩
  ex := h5
  fd := h6
/-- A field, by its operations and laws. -/
class Fld (F : Type) extends Add F, Mul F, Neg F, Sub F where
  zero : F
  one : F
  inv : F → F
  dec : DecidableEq F
  add_comm' : ∀ a b : F, a + b = b + a
  add_assoc' : ∀ a b c : F, a + b + c = a + (b + c)
  zero_add' : ∀ a : F, zero + a = a
  neg_add' : ∀ a : F, -a + a = zero
  sub_eq' : ∀ a b : F, a - b = a + -b
  mul_comm' : ∀ a b : F, a * b = b * a
  mul_assoc' : ∀ a b c : F, a * b * c = a * (b * c)
  one_mul' : ∀ a : F, one * a = a
  add_mul' : ∀ a b c : F, (a + b) * c = a * c + b * c
  inv_mul' : ∀ a : F, a ≠ zero → inv a * a = one
  one_ne' : one ≠ (zero : F)
namespace Fld
variable {F : Type} [Fld F]
instance : DecidableEq F := Fld.dec
theorem add_comm (a b : F) : a + b = b + a := Fld.add_comm' a b
theorem add_assoc (a b c : F) : a + b + c = a + (b + c) := Fld.add_assoc' a b c
theorem zero_add (a : F) : zero + a = a := Fld.zero_add' a
theorem add_zero (a : F) : a + zero = a := by rw [add_comm, zero_add]
theorem neg_add (a : F) : -a + a = zero := Fld.neg_add' a
theorem add_neg (a : F) : a + -a = zero := by rw [add_comm, neg_add]
theorem sub_eq (a b : F) : a - b = a + -b := Fld.sub_eq' a b
theorem mul_comm (a b : F) : a * b = b * a := Fld.mul_comm' a b
theorem mul_assoc (a b c : F) : a * b * c = a * (b * c) := Fld.mul_assoc' a b c
theorem one_mul (a : F) : one * a = a := Fld.one_mul' a
theorem mul_one (a : F) : a * one = a := by rw [mul_comm, one_mul]
theorem add_mul (a b c : F) : (a + b) * c = a * c + b * c := Fld.add_mul' a b c
theorem mul_add (a b c : F) : a * (b + c) = a * b + a * c := by rw [mul_comm, add_mul, mul_comm b, mul_comm c]
theorem inv_mul {a : F} (h : a ≠ zero) : inv a * a = one := Fld.inv_mul' a h
theorem mul_inv {a : F} (h : a ≠ zero) : a * inv a = one := by rw [mul_comm, inv_mul h]
theorem one_ne : (one : F) ≠ zero := Fld.one_ne'
theorem add_left_cancel {a b c : F} (h : a + b = a + c) : b = c := by
  have := congrArg (fun t => -a + t) h
  simpa only [← add_assoc, neg_add, zero_add] using this
theorem add_right_cancel {a b c : F} (h : b + a = c + a) : b = c := by
  rw [add_comm b, add_comm c] at h; exact add_left_cancel h
theorem zero_mul (a : F) : zero * a = zero := by
  have h : zero * a + zero * a = zero * a + zero := by rw [← add_mul, zero_add, add_zero]
  exact add_left_cancel h
theorem mul_zero (a : F) : a * zero = zero := by rw [mul_comm, zero_mul]
theorem eq_neg_of_add {a b : F} (h : a + b = zero) : a = -b := by
  have : a + b = -b + b := by rw [h, neg_add]
  exact add_right_cancel this
theorem neg_neg (a : F) : - -a = a := (eq_neg_of_add (add_neg a)).symm
theorem neg_zero : -(zero : F) = zero := (eq_neg_of_add (zero_add zero)).symm
theorem neg_mul (a b : F) : -a * b = -(a * b) := eq_neg_of_add (by rw [← add_mul, neg_add, zero_mul])
theorem mul_neg (a b : F) : a * -b = -(a * b) := by rw [mul_comm, neg_mul, mul_comm]
theorem neg_add_distrib (a b : F) : -(a + b) = -a + -b := by
  symm; apply eq_neg_of_add
  rw [add_comm a b, add_assoc, ← add_assoc (-b), neg_add, zero_add, neg_add]
theorem sub_self (a : F) : a - a = zero := by rw [sub_eq, add_neg]
theorem sub_zero (a : F) : a - zero = a := by rw [sub_eq, neg_zero, add_zero]
theorem eq_of_sub {a b : F} (h : a - b = zero) : a = b := by
  rw [sub_eq] at h; have := eq_neg_of_add h; rwa [neg_neg] at this
theorem sub_ne {a b : F} (h : a ≠ b) : a - b ≠ zero := fun e => h (eq_of_sub e)
theorem mul_ne {a b : F} (ha : a ≠ zero) (hb : b ≠ zero) : a * b ≠ zero := by
  intro h
  have := congrArg (fun t => inv a * t) h
  simp only [← mul_assoc, inv_mul ha, one_mul, mul_zero] at this
  exact hb this
theorem mul_eq_zero {a b : F} (h : a * b = zero) : a = zero ∨ b = zero := by
  by_cases ha : a = zero
  · exact .inl ha
  · by_cases hb : b = zero
    · exact .inr hb
    · exact (mul_ne ha hb h).elim
theorem mul_left_cancel {a b c : F} (ha : a ≠ zero) (h : a * b = a * c) : b = c := by
  have := congrArg (fun t => inv a * t) h
  simpa only [← mul_assoc, inv_mul ha, one_mul] using this
theorem inv_ne {a : F} (h : a ≠ zero) : inv a ≠ zero := by
  intro e; have := inv_mul h; rw [e, zero_mul] at this; exact one_ne this.symm
theorem inv_unique {a b : F} (h : b * a = one) : b = inv a := by
  have ha : a ≠ zero := by intro e; rw [e, mul_zero] at h; exact one_ne h.symm
  have : a * b = a * inv a := by rw [mul_comm, h, mul_inv ha]
  exact mul_left_cancel ha this
/-- natural multiples of one -/
def nat : Nat → F
  | 0 => zero
  | n + 1 => nat n + one
theorem nat_add (m n : Nat) : (nat (m + n) : F) = nat m + nat n := by
  induction n with
  | zero => exact (add_zero _).symm
  | succ n ih => show nat (m + n) + one = nat m + (nat n + one); rw [ih, add_assoc]
theorem nat_mul (m n : Nat) : (nat (m * n) : F) = nat m * nat n := by
  induction n with
  | zero => show (zero : F) = _ * zero; rw [mul_zero]
  | succ n ih => rw [Nat.mul_succ, nat_add, ih]; show _ = nat m * (nat n + one); rw [mul_add, mul_one]
theorem nat_one : (nat 1 : F) = one := zero_add one
def int : Int → F
  | .ofNat n => nat n
  | .negSucc n => -(nat (n + 1))
theorem int_neg (a : Int) : (int (-a) : F) = -int a := by
  cases a with
  | ofNat n =>
    cases n with
    | zero => show (zero : F) = -zero; rw [neg_zero]
    | succ n => rfl
  | negSucc n => show nat (n+1) = - -nat (n+1); rw [neg_neg]
theorem int_subNat (m n : Nat) : (int ((m : Int) - n) : F) = nat m + -nat n := by
  by_cases h : n ≤ m
  · obtain ⟨k, rfl⟩ := Nat.exists_eq_add_of_le h
    have e : ((n + k : Nat) : Int) - n = (k : Int) := by omega
    rw [e, nat_add, add_comm (nat n), add_assoc, add_neg, add_zero]; rfl
  · obtain ⟨k, rfl⟩ := Nat.exists_eq_add_of_le (Nat.le_of_lt (Nat.lt_of_not_le h))
    have e : (m : Int) - ((m + k : Nat) : Int) = -(k : Int) := by omega
    rw [e, int_neg, nat_add, neg_add_distrib, ← add_assoc, add_neg, zero_add]; rfl
theorem int_cases (a : Int) : ∃ m n : Nat, a = (m : Int) - n ∧ (int a : F) = nat m + -nat n := by
  cases a with
  | ofNat n => exact ⟨n, 0, by simp, by show nat n = nat n + -zero; rw [neg_zero, add_zero]⟩
  | negSucc n => exact ⟨0, n + 1, by omega, by show _ = zero + _; rw [zero_add]; rfl⟩
theorem int_add (a b : Int) : (int (a + b) : F) = int a + int b := by
  obtain ⟨m, n, rfl, ha⟩ := int_cases (F := F) a
  obtain ⟨k, l, rfl, hb⟩ := int_cases (F := F) b
  rw [ha, hb, show (m : Int) - n + (k - l) = ((m + k : Nat) : Int) - ((n + l : Nat)) by omega, int_subNat, nat_add, nat_add, neg_add_distrib]
  rw [add_assoc, add_assoc, ← add_assoc (nat k), add_comm (nat k), add_assoc]
theorem int_mul (a b : Int) : (int (a * b) : F) = int a * int b := by
  obtain ⟨m, n, rfl, ha⟩ := int_cases (F := F) a
  obtain ⟨k, l, rfl, hb⟩ := int_cases (F := F) b
  have e : ((m : Int) - n) * (k - l) = ((m * k + n * l : Nat) : Int) - ((m * l + n * k : Nat)) := by
    simp only [Int.natCast_add, Int.natCast_mul, Int.sub_mul, Int.mul_sub]; omega
  rw [ha, hb, e, int_subNat, nat_add, nat_add, neg_add_distrib, nat_mul, nat_mul, nat_mul, nat_mul]
  rw [add_mul, mul_add, mul_add, neg_mul, neg_mul, mul_neg, mul_neg, neg_neg]
  rw [add_assoc, add_assoc, add_comm (nat n * nat l), add_assoc]
theorem int_zero : (int 0 : F) = zero := rfl
theorem int_one : (int 1 : F) = one := zero_add one
end Fld
/-- A ring of symbols over a field. -/
structure SR (F : Type) [Fld F] where
  T : Type
  add : T → T → T
  mul : T → T → T
  int : Int → T
  isZ : T → Bool
  den : T → F
  den_add : ∀ a b, den (add a b) = den a + den b
  den_mul : ∀ a b, den (mul a b) = den a * den b
  den_int : ∀ n, den (int n) = Fld.int n
  isZ_den : ∀ a, isZ a = true → den a = Fld.zero
namespace SR
open Fld
variable {F : Type} [Fld F]
def base : SR F where
  T := Int
  add := Int.add
  mul := Int.mul
  int := id
  isZ := fun n => decide (n = 0)
  den := Fld.int
  den_add := int_add
  den_mul := int_mul
  den_int := fun _ => rfl
  isZ_den := fun a h => by
    have : a = 0 := of_decide_eq_true h
    subst this; rfl
def padd (R : SR F) : List R.T → List R.T → List R.T
  | [], l => l
  | l, [] => l
  | a :: l, b :: m => R.add a b :: padd R l m
def pscale (R : SR F) (a : R.T) : List R.T → List R.T
  | [] => []
  | b :: m => R.mul a b :: pscale R a m
def pmul (R : SR F) : List R.T → List R.T → List R.T
  | [], _ => []
  | a :: l, m => padd R (pscale R a m) (R.int 0 :: pmul R l m)
def pden (R : SR F) (x : F) : List R.T → F
  | [] => zero
  | a :: l => R.den a + x * pden R x l
def pisZ (R : SR F) : List R.T → Bool
  | [] => true
  | a :: l => match R.isZ a with | true => pisZ R l | false => false
theorem pden_add (R : SR F) (x : F) : ∀ l m, pden R x (padd R l m) = pden R x l + pden R x m
  | [], l => by show pden R x l = zero + _; rw [zero_add]
  | a :: l, [] => by show _ = _ + zero; rw [add_zero]; rfl
  | a :: l, b :: m => by
    show R.den (R.add a b) + x * pden R x (padd R l m) = (R.den a + x * pden R x l) + (R.den b + x * pden R x m)
    rw [R.den_add, pden_add R x l m, mul_add, add_assoc, add_assoc, ← add_assoc (R.den b), add_comm (R.den b), add_assoc]
theorem pden_scale (R : SR F) (x : F) (a : R.T) : ∀ l, pden R x (pscale R a l) = R.den a * pden R x l
  | [] => by show zero = _ * zero; rw [mul_zero]
  | b :: l => by
    show R.den (R.mul a b) + x * pden R x (pscale R a l) = R.den a * (R.den b + x * pden R x l)
    rw [R.den_mul, pden_scale R x a l, mul_add, ← mul_assoc x, mul_comm x, mul_assoc]
theorem pden_mul (R : SR F) (x : F) : ∀ l m, pden R x (pmul R l m) = pden R x l * pden R x m
  | [], m => by show zero = zero * _; rw [zero_mul]
  | a :: l, m => by
    show pden R x (padd R (pscale R a m) (R.int 0 :: pmul R l m)) = (R.den a + x * pden R x l) * pden R x m
    rw [pden_add, pden_scale]
    show _ + (R.den (R.int 0) + x * pden R x (pmul R l m)) = _
    rw [R.den_int, int_zero, zero_add, pden_mul R x l m, add_mul, mul_assoc]
theorem pisZ_den (R : SR F) (x : F) : ∀ l, pisZ R l = true → pden R x l = zero
  | [], _ => rfl
  | a :: l, h => by
    unfold pisZ at h
    split at h
    · rename_i ha
      show R.den a + x * pden R x l = zero
      rw [R.isZ_den a ha, pisZ_den R x l h, mul_zero, add_zero]
    · simp at h
/-- polynomials in x over R -/
def poly (R : SR F) (x : F) : SR F where
  T := List R.T
  add := padd R
  mul := pmul R
  int := fun n => [R.int n]
  isZ := pisZ R
  den := pden R x
  den_add := pden_add R x
  den_mul := pden_mul R x
  den_int := fun n => by show R.den (R.int n) + x * zero = _; rw [R.den_int, mul_zero, add_zero]
  isZ_den := pisZ_den R x
def poly.var (R : SR F) (x : F) : (poly R x).T := [R.int 0, R.int 1]
def poly.up (R : SR F) (x : F) (a : R.T) : (poly R x).T := [a]
theorem poly.den_var (R : SR F) (x : F) : (poly R x).den (poly.var R x) = x := by
  show R.den (R.int 0) + x * (R.den (R.int 1) + x * zero) = x
  rw [R.den_int, R.den_int, int_zero, int_one, mul_zero, add_zero, zero_add, mul_one]
theorem poly.den_up (R : SR F) (x : F) (a : R.T) : (poly R x).den (poly.up R x a) = R.den a := by
  show R.den a + x * zero = _
  rw [mul_zero, add_zero]
/-- numbers a + b y where y y is c -/
def quad (R : SR F) (y : F) (c : R.T) (h : y * y = R.den c) : SR F where
  T := R.T × R.T
  add := fun a b => (R.add a.1 b.1, R.add a.2 b.2)
  mul := fun a b => (R.add (R.mul a.1 b.1) (R.mul c (R.mul a.2 b.2)), R.add (R.mul a.1 b.2) (R.mul a.2 b.1))
  int := fun n => (R.int n, R.int 0)
  isZ := fun a => R.isZ a.1 && R.isZ a.2
  den := fun a => R.den a.1 + y * R.den a.2
  den_add := fun a b => by
    show R.den (R.add a.1 b.1) + y * R.den (R.add a.2 b.2) = (R.den a.1 + y * R.den a.2) + (R.den b.1 + y * R.den b.2)
    rw [R.den_add, R.den_add, mul_add, add_assoc, add_assoc, ← add_assoc (R.den b.1), add_comm (R.den b.1), add_assoc]
  den_mul := fun a b => by
    show R.den (R.add (R.mul a.1 b.1) (R.mul c (R.mul a.2 b.2))) + y * R.den (R.add (R.mul a.1 b.2) (R.mul a.2 b.1)) = (R.den a.1 + y * R.den a.2) * (R.den b.1 + y * R.den b.2)
    rw [R.den_add, R.den_add, R.den_mul, R.den_mul, R.den_mul, R.den_mul, R.den_mul, ← h, add_mul, mul_add, mul_add, mul_add]
    generalize R.den a.1 = p; generalize R.den a.2 = q; generalize R.den b.1 = r; generalize R.den b.2 = s
    have e1 : y * q * (y * s) = y * y * (q * s) := by rw [mul_assoc, ← mul_assoc q, mul_comm q y, mul_assoc y q, ← mul_assoc y y]
    have e2 : p * (y * s) = y * (p * s) := by rw [← mul_assoc, mul_comm p, mul_assoc]
    have e3 : y * q * r = y * (q * r) := mul_assoc _ _ _
    rw [e1, e2, e3]
    rw [add_assoc, add_assoc, add_comm (y * y * (q * s)), add_assoc]
  den_int := fun n => by
    show R.den (R.int n) + y * R.den (R.int 0) = _
    rw [R.den_int, R.den_int, int_zero, mul_zero, add_zero]
  isZ_den := fun a h => by
    have h' := (Bool.and_eq_true _ _).mp h
    show R.den a.1 + y * R.den a.2 = zero
    rw [R.isZ_den _ h'.1, R.isZ_den _ h'.2, mul_zero, add_zero]
def quad.var (R : SR F) (y : F) (c : R.T) (h : y * y = R.den c) : (quad R y c h).T := (R.int 0, R.int 1)
def quad.up (R : SR F) (y : F) (c : R.T) (h : y * y = R.den c) (a : R.T) : (quad R y c h).T := (a, R.int 0)
theorem quad.den_var (R : SR F) (y : F) (c : R.T) (h : y * y = R.den c) : (quad R y c h).den (quad.var R y c h) = y := by
  show R.den (R.int 0) + y * R.den (R.int 1) = y
  rw [R.den_int, R.den_int, int_zero, int_one, zero_add, mul_one]
theorem quad.den_up (R : SR F) (y : F) (c : R.T) (h : y * y = R.den c) (a : R.T) : (quad R y c h).den (quad.up R y c h a) = R.den a := by
  show R.den a + y * R.den (R.int 0) = _
  rw [R.den_int, int_zero, mul_zero, add_zero]
end SR
/-- Expressions in variables. -/
inductive PE where
  | var (i : Nat)
  | int (n : Int)
  | add (a b : PE)
  | mul (a b : PE)
  | neg (a : PE)
  | sub (a b : PE)
namespace PE
variable {F : Type} [Fld F]
instance : Add PE := ⟨PE.add⟩
instance : Mul PE := ⟨PE.mul⟩
instance : Neg PE := ⟨PE.neg⟩
instance : Sub PE := ⟨PE.sub⟩
instance (n : Nat) : OfNat PE n := ⟨PE.int n⟩
def den (ρ : Nat → F) : PE → F
  | .var i => ρ i
  | .int n => Fld.int n
  | .add a b => den ρ a + den ρ b
  | .mul a b => den ρ a * den ρ b
  | .neg a => -den ρ a
  | .sub a b => den ρ a - den ρ b
def ev (R : SR F) (v : Nat → R.T) : PE → R.T
  | .var i => v i
  | .int n => R.int n
  | .add a b => R.add (ev R v a) (ev R v b)
  | .mul a b => R.mul (ev R v a) (ev R v b)
  | .neg a => R.mul (R.int (-1)) (ev R v a)
  | .sub a b => R.add (ev R v a) (R.mul (R.int (-1)) (ev R v b))
theorem int_m1_mul (a : F) : Fld.int (-1) * a = -a := by
  rw [Fld.int_neg, Fld.int_one, Fld.neg_mul, Fld.one_mul]
theorem den_ev (R : SR F) (v : Nat → R.T) (ρ : Nat → F) (h : ∀ i, R.den (v i) = ρ i) : ∀ e, R.den (ev R v e) = den ρ e
  | .var i => h i
  | .int n => R.den_int n
  | .add a b => by show R.den (R.add _ _) = _ + _; rw [R.den_add, den_ev R v ρ h a, den_ev R v ρ h b]
  | .mul a b => by show R.den (R.mul _ _) = _ * _; rw [R.den_mul, den_ev R v ρ h a, den_ev R v ρ h b]
  | .neg a => by show R.den (R.mul _ _) = -_; rw [R.den_mul, R.den_int, int_m1_mul, den_ev R v ρ h a]
  | .sub a b => by show R.den (R.add _ (R.mul _ _)) = _ - _; rw [R.den_add, R.den_mul, R.den_int, int_m1_mul, den_ev R v ρ h a, den_ev R v ρ h b, Fld.sub_eq]
theorem eq_of (R : SR F) (v : Nat → R.T) (ρ : Nat → F) (h : ∀ i, R.den (v i) = ρ i) (a b : PE) (hz : R.isZ (ev R v (a - b)) = true) :
    den ρ a = den ρ b := by
  have := R.isZ_den _ hz
  rw [den_ev R v ρ h] at this
  exact Fld.eq_of_sub this
end PE
/-- the ring of symbols of a list of values -/
def mk {F : Type} [Fld F] : List F → SR F
  | [] => SR.base
  | x :: l => SR.poly (mk l) x
/-- the i-th variable -/
def mkv {F : Type} [Fld F] : (l : List F) → Nat → (mk l).T
  | [], _ => (0 : Int)
  | x :: l, 0 => SR.poly.var (mk l) x
  | x :: l, i + 1 => SR.poly.up (mk l) x (mkv l i)
def rho {F : Type} [Fld F] : List F → Nat → F
  | [], _ => Fld.zero
  | x :: _, 0 => x
  | _ :: l, i + 1 => rho l i
section
variable {F : Type} [Fld F]
theorem den_mkv : ∀ (l : List F) (i : Nat), (mk l).den (mkv l i) = rho l i
  | [], _ => rfl
  | x :: l, 0 => SR.poly.den_var (mk l) x
  | x :: l, i + 1 => (SR.poly.den_up (mk l) x (mkv l i)).trans (den_mkv l i)
/-- an identity of commutative rings -/
theorem ring_id (l : List F) (a b : PE) (h : (mk l).isZ (PE.ev (mk l) (mkv l) (a - b)) = true) : PE.den (rho l) a = PE.den (rho l) b :=
  PE.eq_of (mk l) (mkv l) (rho l) (den_mkv l) a b h
/-- a list of equations, each with its factor -/
def lin (l : List F) : List (PE × PE × PE) → Prop
  | [] => True
  | t :: cs => PE.den (rho l) t.2.1 = PE.den (rho l) t.2.2 ∧ lin l cs
def lc : List (PE × PE × PE) → PE
  | [] => 0
  | t :: l => t.1 * (t.2.1 - t.2.2) + lc l
theorem lc_zero (l : List F) : ∀ cs, lin l cs → PE.den (rho l) (lc cs) = Fld.zero
  | [], _ => rfl
  | t :: cs, h => by
    show PE.den _ t.1 * (PE.den _ t.2.1 - PE.den _ t.2.2) + PE.den _ (lc cs) = _
    rw [h.1, lc_zero l cs h.2, Fld.sub_self, Fld.mul_zero, Fld.add_zero]
/-- a = b out of equations, with the factors given -/
theorem ring_lin (l : List F) (cs : List (PE × PE × PE)) (a b : PE) (hc : lin l cs) (h : (mk l).isZ (PE.ev (mk l) (mkv l) ((a - b) - lc cs)) = true) :
    PE.den (rho l) a = PE.den (rho l) b := by
  have h0 := (mk l).isZ_den _ h
  rw [PE.den_ev (mk l) (mkv l) (rho l) (den_mkv l)] at h0
  have h1 : PE.den (rho l) a - PE.den (rho l) b - PE.den (rho l) (lc cs) = Fld.zero := h0
  rw [lc_zero l cs hc, Fld.sub_zero] at h1
  exact Fld.eq_of_sub h1
end
abbrev v (i : Nat) := PE.var i
abbrev pv (i : Nat) := PE.var i
/-- a prime number -/
def Prm (n : Nat) : Prop := 2 ≤ n ∧ ∀ m, m ∣ n → m = 1 ∨ m = n
theorem Prm.pos {p : Nat} (h : Prm p) : 0 < p := by have := h.1; omega
theorem Prm.cop {p a : Nat} (h : Prm p) (ha : ¬ p ∣ a) : Nat.Coprime p a := by
  rcases h.2 (Nat.gcd p a) (Nat.gcd_dvd_left _ _) with e | e
  · exact e
  · exact (ha (e ▸ Nat.gcd_dvd_right p a)).elim
theorem Prm.dvd_mul {p a b : Nat} (h : Prm p) (hd : p ∣ a * b) : p ∣ a ∨ p ∣ b := by
  by_cases ha : p ∣ a
  · exact .inl ha
  · exact .inr ((h.cop ha).dvd_of_dvd_mul_left hd)
theorem exists_prm (n : Nat) : 2 ≤ n → ∃ d, Prm d ∧ d ∣ n := by
  induction n using Nat.strongRecOn with
  | _ n ih =>
    intro hn
    by_cases h : ∀ m, m ∣ n → m = 1 ∨ m = n
    · exact ⟨n, ⟨hn, h⟩, Nat.dvd_refl n⟩
    · simp only [Classical.not_forall, not_or] at h
      obtain ⟨m, hm, h1, h2⟩ := h
      have hpos : 0 < m := Nat.pos_of_dvd_of_pos hm (by omega)
      have hle := Nat.le_of_dvd (by omega) hm
      obtain ⟨d, hd, hdm⟩ := ih m (by omega) (by omega)
      exact ⟨d, hd, Nat.dvd_trans hdm hm⟩
/-- prime if no prime up to the root divides -/
theorem prm_of {n : Nat} (hn : 2 ≤ n) (h : ∀ d, Prm d → d ∣ n → n < d * d) : Prm n := by
  refine ⟨hn, fun m hm => ?_⟩
  refine Classical.byContradiction fun hne => ?_
  simp only [not_or] at hne
  have key : ∀ m k : Nat, n = m * k → m ≤ k → m ≠ 1 → False := by
    intro m k e hle h1
    have hm0 : m ≠ 0 := by rintro rfl; simp at e; omega
    obtain ⟨d, hd, hdm⟩ := exists_prm m (by omega)
    have h2 := h d hd (e ▸ Nat.dvd_trans hdm (Nat.dvd_mul_right m k))
    have h3 : d ≤ m := Nat.le_of_dvd (by omega) hdm
    have h4 : d * d ≤ m * k := Nat.mul_le_mul h3 (Nat.le_trans h3 hle)
    omega
  obtain ⟨k, hk⟩ := hm
  by_cases hle : m ≤ k
  · exact key m k hk hle hne.1
  · refine key k m (by rw [hk, Nat.mul_comm]) (by omega) ?_
    rintro rfl
    rw [Nat.mul_one] at hk
    exact hne.2 hk.symm
/-- no number from 2 to k divides n -/
def noDiv (n : Nat) : Nat → Bool
  | 0 => true
  | k + 1 => (Nat.ble (k + 1) 1 || !Nat.beq (n % (k + 1)) 0) && noDiv n k
theorem noDiv_sound (n : Nat) : ∀ k, noDiv n k = true → ∀ d, 2 ≤ d → d ≤ k → ¬ d ∣ n
  | 0, _, d, h2, hk => by omega
  | k + 1, h, d, h2, hk => by
    simp only [noDiv, Bool.and_eq_true, Bool.or_eq_true, Nat.ble_eq, Bool.not_eq_true'] at h
    by_cases e : d = k + 1
    · subst e
      intro hd
      rcases h.1 with h1 | h1
      · omega
      · have : n % (k + 1) = 0 := Nat.mod_eq_zero_of_dvd hd
        rw [this] at h1; simp at h1
    · exact noDiv_sound n k h.2 d h2 (by omega)
theorem prm_trial {n : Nat} (k : Nat) (hn : 2 ≤ n) (h : noDiv n k = true) (hk : n < (k + 1) * (k + 1)) : Prm n := by
  refine prm_of hn fun d hd hdn => ?_
  by_cases hle : d ≤ k
  · exact (noDiv_sound n k h d hd.1 hle hdn).elim
  · have : (k + 1) * (k + 1) ≤ d * d := Nat.mul_le_mul (by omega) (by omega)
    omega
-- lists
theorem nodup_perm {α : Type} [DecidableEq α] : ∀ (l m : List α), l.Nodup → l ⊆ m → m.length ≤ l.length → l.Perm m
  | [], m, _, _, hl => by
    have : m = [] := List.eq_nil_of_length_eq_zero (by simpa using hl)
    subst this; exact List.Perm.refl _
  | a :: t, m, hn, hs, hl => by
    have ha : a ∈ m := hs (by simp)
    have hp := List.perm_cons_erase ha
    have hlen := hp.length_eq
    obtain ⟨hat, hnt⟩ := List.nodup_cons.mp hn
    refine List.Perm.trans (List.Perm.cons a (nodup_perm t (m.erase a) hnt ?_ ?_)) hp.symm
    · intro x hx
      exact (List.mem_erase_of_ne (by rintro rfl; exact hat hx)).mpr (hs (List.mem_cons_of_mem a hx))
    · simp only [List.length_cons] at hlen hl; omega
theorem nodup_length_le {α : Type} [DecidableEq α] : ∀ (l m : List α), l.Nodup → l ⊆ m → l.length ≤ m.length
  | [], m, _, _ => by simp
  | a :: t, m, hn, hs => by
    have ha : a ∈ m := hs (by simp)
    have hlen := (List.perm_cons_erase ha).length_eq
    obtain ⟨hat, hnt⟩ := List.nodup_cons.mp hn
    have := nodup_length_le t (m.erase a) hnt (fun x hx => (List.mem_erase_of_ne (by rintro rfl; exact hat hx)).mpr (hs (List.mem_cons_of_mem a hx)))
    simp only [List.length_cons] at hlen ⊢; omega
theorem nodup_map {α β : Type} {f : α → β} : ∀ (l : List α), l.Nodup → (∀ x ∈ l, ∀ y ∈ l, f x = f y → x = y) → (l.map f).Nodup
  | [], _, _ => by simp
  | a :: t, hn, hf => by
    obtain ⟨hat, hnt⟩ := List.nodup_cons.mp hn
    rw [List.map_cons, List.nodup_cons]
    refine ⟨?_, nodup_map t hnt (fun x hx y hy => hf x (List.mem_cons_of_mem a hx) y (List.mem_cons_of_mem a hy))⟩
    intro hm
    obtain ⟨x, hx, e⟩ := List.mem_map.mp hm
    exact hat ((hf x (List.mem_cons_of_mem a hx) a (by simp) e) ▸ hx)
def prodL (l : List Nat) : Nat := l.foldr (· * ·) 1
theorem prodL_perm {l m : List Nat} (h : l.Perm m) : prodL l = prodL m := by
  induction h with
  | nil => rfl
  | cons x _ ih => show x * prodL _ = x * prodL _; rw [ih]
  | swap x y l => show y * (x * prodL l) = x * (y * prodL l); rw [Nat.mul_left_comm]
  | trans _ _ h1 h2 => rw [h1, h2]
theorem prodL_map (p a : Nat) : ∀ l, prodL (l.map fun x => a * x % p) % p = a ^ l.length * prodL l % p
  | [] => by simp [prodL]
  | x :: l => by
    show (a * x % p * prodL (l.map fun x => a * x % p)) % p = a ^ (l.length + 1) * (x * prodL l) % p
    rw [Nat.mul_mod, prodL_map p a l, Nat.mod_mod, ← Nat.mul_mod, Nat.pow_succ]
    congr 1
    simp only [Nat.mul_assoc, Nat.mul_comm, Nat.mul_left_comm]
theorem prodL_not_dvd {p : Nat} (hp : Prm p) : ∀ l : List Nat, (∀ x ∈ l, ¬ p ∣ x) → ¬ p ∣ prodL l
  | [], _ => by
    intro h; have := Nat.le_of_dvd (by simp [prodL]) h; have := hp.1; simp [prodL] at *; omega
  | x :: l, h => by
    intro hd
    rcases hp.dvd_mul (a := x) (b := prodL l) hd with e | e
    · exact h x (by simp) e
    · exact prodL_not_dvd hp l (fun y hy => h y (List.mem_cons_of_mem x hy)) e
theorem mod_cancel {p a x y : Nat} (hp : Prm p) (ha : ¬ p ∣ a) (hx : x < p) (hy : y < p) (h : a * x % p = a * y % p) : x = y := by
  have key : ∀ x y : Nat, x < p → y < p → y ≤ x → a * x % p = a * y % p → x = y := by
    intro x y hx hy hle h
    have h0 := Nat.sub_mod_eq_zero_of_mod_eq h
    rw [← Nat.mul_sub] at h0
    rcases hp.dvd_mul (Nat.dvd_of_mod_eq_zero h0) with e | e
    · exact (ha e).elim
    · by_cases hz : x - y = 0
      · omega
      · have := Nat.le_of_dvd (by omega) e; omega
  by_cases hle : y ≤ x
  · exact key x y hx hy hle h
  · exact (key y x hy hx (by omega) h.symm).symm
/-- Fermat's little theorem -/
theorem fermat {p a : Nat} (hp : Prm p) (ha : ¬ p ∣ a) : a ^ (p - 1) % p = 1 := by
  have hp2 := hp.1
  let L := (List.range (p - 1)).map (· + 1)
  have hL : ∀ x ∈ L, 1 ≤ x ∧ x < p := by
    intro x hx
    obtain ⟨i, hi, rfl⟩ := List.mem_map.mp hx
    have := List.mem_range.mp hi; omega
  have hLn : L.Nodup := nodup_map _ List.nodup_range (fun x _ y _ e => by omega)
  have hlen : L.length = p - 1 := by simp [L]
  let M := L.map fun x => a * x % p
  have hMn : M.Nodup := nodup_map _ hLn (fun x hx y hy e => mod_cancel hp ha (hL x hx).2 (hL y hy).2 e)
  have hsub : M ⊆ L := by
    intro z hz
    obtain ⟨x, hx, rfl⟩ := List.mem_map.mp hz
    have h1 := hL x hx
    have h2 : a * x % p < p := Nat.mod_lt _ (by omega)
    have h3 : a * x % p ≠ 0 := by
      intro e
      rcases hp.dvd_mul (Nat.dvd_of_mod_eq_zero e) with e | e
      · exact ha e
      · have := Nat.le_of_dvd (by omega) e; omega
    exact List.mem_map.mpr ⟨a * x % p - 1, List.mem_range.mpr (by omega), by omega⟩
  have hperm := nodup_perm M L hMn hsub (by simp [M])
  have e := prodL_map p a L
  rw [show prodL (L.map fun x => a * x % p) = prodL L from prodL_perm hperm, hlen] at e
  have hnd : ¬ p ∣ prodL L := prodL_not_dvd hp L (fun x hx hd => by
    have h1 := hL x hx; have := Nat.le_of_dvd (by omega) hd; omega)
  have h1 : prodL L * (a ^ (p - 1) % p) % p = prodL L * 1 % p := by
    rw [Nat.mul_one, e, Nat.mul_comm (a ^ (p-1)), Nat.mul_mod (prodL L) (a ^ (p-1)), Nat.mul_mod, Nat.mod_mod]
  exact mod_cancel hp hnd (Nat.mod_lt _ (by omega)) (by omega) h1
/-- powers modulo n: fuel, base, exponent -/
def powM (n : Nat) : Nat → Nat → Nat → Nat
  | 0, _, _ => 1 % n
  | f + 1, a, e => match Nat.beq e 0 with
    | true => 1 % n
    | false => match Nat.beq (e % 2) 0 with
      | true => powM n f (a * a % n) (e / 2)
      | false => a * powM n f (a * a % n) (e / 2) % n
theorem powM_eq (n : Nat) : ∀ f a e, e < 2 ^ f → powM n f a e = a ^ e % n
  | 0, a, e, h => by have : e = 0 := by simp at h; omega
                     subst this; simp [powM]
  | f + 1, a, e, h => by
    have hh : e / 2 < 2 ^ f := by rw [Nat.pow_succ] at h; omega
    have ih := powM_eq n f (a * a % n) (e / 2) hh
    rw [← Nat.pow_mod, show (a * a) ^ (e / 2) = a ^ (2 * (e / 2)) by rw [Nat.pow_mul, Nat.pow_two]] at ih
    unfold powM
    split
    · rename_i h0; have : e = 0 := Nat.eq_of_beq_eq_true h0
      subst this; simp
    · split
      · rename_i h2; have : e % 2 = 0 := Nat.eq_of_beq_eq_true h2
        rw [ih]; congr 2; omega
      · rename_i h2; have : e % 2 ≠ 0 := Nat.ne_of_beq_eq_false h2
        rw [ih]
        have e2 : e = 2 * (e / 2) + 1 := by omega
        conv => rhs; rw [e2, Nat.pow_succ, Nat.mul_comm, Nat.mul_mod]
        rw [Nat.mul_mod]; simp
theorem pow_gcd_one {d a : Nat} (hd : 2 ≤ d) (x y : Nat) : a ^ x % d = 1 → a ^ y % d = 1 → a ^ (Nat.gcd x y) % d = 1 := by
  induction x, y using Nat.gcd.induction with
  | H0 n => intro _ h; rw [Nat.gcd_zero_left]; exact h
  | H1 m n hm ih =>
    intro h1 h2
    rw [Nat.gcd_rec]
    refine ih ?_ h1
    have e : n = m * (n / m) + n % m := (Nat.div_add_mod n m).symm
    rw [e, Nat.pow_add, Nat.pow_mul, Nat.mul_mod, Nat.pow_mod, h1, Nat.one_pow, Nat.mod_eq_of_lt (by omega : 1 < d), Nat.one_mul, Nat.mod_mod] at h2
    exact h2
/-- a prime divisor of n, by a witness: q divides it less one -/
theorem pock {n d q m a : Nat} (hn0 : 0 < n) (hd : Prm d) (hdn : d ∣ n) (hq : Prm q) (hm : n - 1 = q * m) (h1 : a ^ (n - 1) % n = 1) (h2 : Nat.gcd (a ^ m % n + (n - 1)) n = 1) : q ∣ d - 1 := by
  refine Classical.byContradiction fun hnd => ?_
  have hd2 := hd.1
  have hn2 : 2 ≤ n := by
    have := Nat.le_of_dvd hn0 hdn; omega
  have e1 : a ^ (n - 1) % d = 1 := by
    rw [← Nat.mod_mod_of_dvd _ hdn, h1, Nat.mod_eq_of_lt (by omega)]
  have had : ¬ d ∣ a := by
    intro h
    have hpow : ∀ j, 0 < j → d ∣ a ^ j := fun j hj => by
      obtain ⟨i, rfl⟩ : ∃ i, j = i + 1 := ⟨j - 1, by omega⟩
      rw [Nat.pow_succ]; exact Nat.dvd_trans h (Nat.dvd_mul_left a _)
    have : d ∣ a ^ (n - 1) := hpow _ (by omega)
    rw [Nat.mod_eq_zero_of_dvd this] at e1; omega
  have e2 := fermat hd had
  have e3 := pow_gcd_one hd2 (n - 1) (d - 1) e1 e2
  have hg : Nat.gcd (n - 1) (d - 1) = Nat.gcd m (d - 1) := by
    rw [hm]
    exact Nat.Coprime.gcd_mul_left_cancel m (hq.cop hnd)
  rw [hg] at e3
  obtain ⟨k, hk⟩ := Nat.gcd_dvd_left m (d - 1)
  have e4 : a ^ m % d = 1 := by
    rw [hk, Nat.pow_mul, Nat.pow_mod, e3, Nat.one_pow, Nat.mod_eq_of_lt (by omega)]
  have e5 : d ∣ a ^ m % n + (n - 1) := by
    apply Nat.dvd_of_mod_eq_zero
    obtain ⟨c, hc⟩ := hdn
    have : (a ^ m % n + (n - 1)) % d = (a ^ m % n % d + (n - 1)) % d := (Nat.mod_add_mod _ _ _).symm
    rw [this, Nat.mod_mod_of_dvd _ ⟨c, hc⟩, e4, show 1 + (n - 1) = n by omega, hc]
    exact Nat.mul_mod_right d c
  have := Nat.dvd_gcd e5 hdn
  rw [h2] at this
  have := Nat.le_of_dvd (by omega) this
  omega
def witness (n q a : Nat) : Bool :=
  Nat.beq ((n - 1) % q) 0 && (Nat.beq (powM n 256 a (n - 1)) 1 && Nat.beq (Nat.gcd (powM n 256 a ((n - 1) / q) + (n - 1)) n) 1)
theorem witness_sound {n q a : Nat} (hn0 : 0 < n) (hn : n < 2 ^ 256) (h : witness n q a = true) (hq : Prm q) (d : Nat) (hd : Prm d) (hdn : d ∣ n) : q ∣ d - 1 := by
  simp only [witness, Bool.and_eq_true, Nat.beq_eq] at h
  obtain ⟨h1, h2, h3⟩ := h
  have hlt : (n - 1) / q < 2 ^ 256 := Nat.lt_of_le_of_lt (Nat.div_le_self _ _) (by omega)
  rw [powM_eq n 256 a (n - 1) (by omega)] at h2
  rw [powM_eq n 256 a ((n - 1) / q) hlt] at h3
  exact pock hn0 hd hdn hq (by have := Nat.div_add_mod (n - 1) q; rw [h1] at this; omega) h2 h3
theorem prm_one {n q : Nat} (a : Nat) (hq : Prm q) (hn2 : 2 ≤ n) (hn : n < 2 ^ 256) (h : witness n q a = true) (hlt : n < (q + 1) * (q + 1)) : Prm n := by
  refine prm_of hn2 fun d hd hdn => ?_
  have h1 := witness_sound (by omega) hn h hq d hd hdn
  have hd2 := hd.1
  have h2 := Nat.le_of_dvd (by omega) h1
  exact Nat.lt_of_lt_of_le hlt (Nat.mul_le_mul (by omega) (by omega))
theorem prm_two {n q r : Nat} (a b : Nat) (hq : Prm q) (hr : Prm r) (hne : q ≠ r) (hn2 : 2 ≤ n) (hn : n < 2 ^ 256) (h : witness n q a = true) (k : witness n r b = true)
    (hlt : n < (q * r + 1) * (q * r + 1)) : Prm n := by
  refine prm_of hn2 fun d hd hdn => ?_
  have h1 := witness_sound (by omega) hn h hq d hd hdn
  have h2 := witness_sound (by omega) hn k hr d hd hdn
  have hc : Nat.Coprime q r := hq.cop (fun h => by
    rcases hr.2 q h with e | e
    · have := hq.1; omega
    · exact hne e)
  have hd2 := hd.1
  have h3 := Nat.le_of_dvd (by omega) (hc.mul_dvd_of_dvd_of_dvd h1 h2)
  exact Nat.lt_of_lt_of_le hlt (Nat.mul_le_mul (by omega) (by omega))
theorem prm_3557 : Prm 3557 := prm_trial 59 (by decide) (by kernel_rfl) (by decide)
theorem prm_911 : Prm 911 := prm_trial 30 (by decide) (by kernel_rfl) (by decide)
theorem prm_1263766531 : Prm 1263766531 := prm_two 2 2 prm_3557 prm_911 (by decide) (by decide) (by decide) (by kernel_rfl) (by kernel_rfl) (by decide)
theorem prm_35385462869 : Prm 35385462869 := prm_one 2 prm_1263766531 (by decide) (by decide) (by kernel_rfl) (by decide)
theorem prm_2480874801745591 : Prm 2480874801745591 := prm_one 2 prm_35385462869 (by decide) (by decide) (by kernel_rfl) (by decide)
theorem prm_13327 : Prm 13327 := prm_trial 115 (by decide) (by kernel_rfl) (by decide)
theorem prm_89 : Prm 89 := prm_trial 9 (by decide) (by kernel_rfl) (by decide)
theorem prm_173171039 : Prm 173171039 := prm_two 2 2 prm_13327 prm_89 (by decide) (by decide) (by decide) (by kernel_rfl) (by kernel_rfl) (by decide)
theorem prm_13427688667394608761327070753331941386769 : Prm 13427688667394608761327070753331941386769 := prm_two 2 2 prm_2480874801745591 prm_173171039 (by decide) (by decide) (by decide) (by kernel_rfl) (by kernel_rfl) (by decide)
theorem prm_p : Prm 21888242871839275222246405745257275088696311157297823662689037894645226208583 := prm_one 2 prm_13427688667394608761327070753331941386769 (by decide) (by decide) (by kernel_rfl) (by decide)
theorem prm_1637 : Prm 1637 := prm_trial 40 (by decide) (by kernel_rfl) (by decide)
theorem prm_853 : Prm 853 := prm_trial 29 (by decide) (by kernel_rfl) (by decide)
theorem prm_639533339 : Prm 639533339 := prm_two 2 2 prm_1637 prm_853 (by decide) (by decide) (by decide) (by kernel_rfl) (by kernel_rfl) (by decide)
theorem prm_65865678001877903 : Prm 65865678001877903 := prm_one 2 prm_639533339 (by decide) (by decide) (by kernel_rfl) (by decide)
theorem prm_13818364434197438864469338081 : Prm 13818364434197438864469338081 := prm_one 2 prm_65865678001877903 (by decide) (by decide) (by kernel_rfl) (by decide)
theorem prm_93001 : Prm 93001 := prm_trial 304 (by decide) (by kernel_rfl) (by decide)
theorem prm_661 : Prm 661 := prm_trial 25 (by decide) (by kernel_rfl) (by decide)
theorem prm_12048837557 : Prm 12048837557 := prm_two 2 2 prm_93001 prm_661 (by decide) (by decide) (by decide) (by kernel_rfl) (by kernel_rfl) (by decide)
theorem prm_5156902474397 : Prm 5156902474397 := prm_one 2 prm_12048837557 (by decide) (by decide) (by kernel_rfl) (by decide)
theorem prm_1670836401704629 : Prm 1670836401704629 := prm_one 2 prm_5156902474397 (by decide) (by decide) (by kernel_rfl) (by decide)
theorem prm_r : Prm 21888242871839275222246405745257275088548364400416034343698204186575808495617 := prm_two 2 2 prm_13818364434197438864469338081 prm_1670836401704629 (by decide) (by decide) (by decide) (by kernel_rfl) (by kernel_rfl) (by decide)
/-- the prime of the base field -/
def pP : Nat := 21888242871839275222246405745257275088696311157297823662689037894645226208583
/-- the order -/
def rR : Nat := 21888242871839275222246405745257275088548364400416034343698204186575808495617
theorem pP_prm : Prm pP := prm_p
theorem rR_prm : Prm rR := prm_r
theorem pP_pos : 0 < pP := pP_prm.pos
theorem pP_two : 2 < pP := by decide
theorem pP_lt : pP < 2 ^ 254 := by decide
instance : NeZero pP := ⟨by decide⟩
abbrev Fp := Fin pP
def fpInv (a : Fp) : Fp := ⟨powM pP 256 a.val (pP - 2), by
  rw [powM_eq pP 256 a.val (pP - 2) (by decide)]; exact Nat.mod_lt _ pP_pos⟩
theorem fp_add_val (a b : Fp) : (a + b).val = (a.val + b.val) % pP := rfl
theorem fp_mul_val (a b : Fp) : (a * b).val = a.val * b.val % pP := rfl
theorem fp_neg_val (a : Fp) : (-a).val = (pP - a.val) % pP := rfl
theorem fp_sub_val (a b : Fp) : (a - b).val = (pP - b.val + a.val) % pP := rfl
theorem fp_zero_val : (0 : Fp).val = 0 := rfl
theorem fp_one_val : (1 : Fp).val = 1 := by decide
theorem fp_val_ne {a : Fp} (h : a ≠ 0) : ¬ pP ∣ a.val := by
  intro hd
  by_cases e : a.val = 0
  · exact h (Fin.ext e)
  · have := Nat.le_of_dvd (by omega) hd
    have := a.isLt; omega
theorem fp_inv_mul (a : Fp) (h : a ≠ 0) : fpInv a * a = 1 := by
  apply Fin.ext
  rw [fp_mul_val, fp_one_val]
  show powM pP 256 a.val (pP - 2) * a.val % pP = 1
  rw [powM_eq pP 256 a.val (pP - 2) (by decide), Nat.mod_mul_mod, ← Nat.pow_succ]
  exact fermat pP_prm (fp_val_ne h)
instance : Fld Fp where
  zero := 0
  one := 1
  inv := fpInv
  dec := inferInstance
  add_comm' := fun a b => Fin.ext (by simp only [fp_add_val]; rw [Nat.add_comm])
  add_assoc' := fun a b c => Fin.ext (by simp only [fp_add_val]; rw [Nat.mod_add_mod, Nat.add_mod_mod, Nat.add_assoc])
  zero_add' := fun a => Fin.ext (by rw [fp_add_val, fp_zero_val, Nat.zero_add, Nat.mod_eq_of_lt a.isLt])
  neg_add' := fun a => Fin.ext (by
    rw [fp_add_val, fp_neg_val, fp_zero_val, Nat.mod_add_mod]
    have := a.isLt
    rw [Nat.sub_add_cancel (by omega), Nat.mod_self])
  sub_eq' := fun a b => Fin.ext (by
    rw [fp_sub_val, fp_add_val, fp_neg_val, Nat.add_mod_mod, Nat.add_comm])
  mul_comm' := fun a b => Fin.ext (by rw [fp_mul_val, fp_mul_val, Nat.mul_comm])
  mul_assoc' := fun a b c => Fin.ext (by simp only [fp_mul_val]; rw [Nat.mod_mul_mod, Nat.mul_mod_mod, Nat.mul_assoc])
  one_mul' := fun a => Fin.ext (by rw [fp_mul_val, fp_one_val, Nat.one_mul, Nat.mod_eq_of_lt a.isLt])
  add_mul' := fun a b c => Fin.ext (by simp only [fp_mul_val, fp_add_val]; rw [Nat.mod_mul_mod, ← Nat.add_mod, Nat.add_mul])
  inv_mul' := fp_inv_mul
  one_ne' := by decide
/-- numbers a0 + a1 u, u u = -1 -/
structure Fp2 where
  a0 : Fp
  a1 : Fp
  deriving DecidableEq
namespace Fp2
theorem ext {a b : Fp2} (h0 : a.a0 = b.a0) (h1 : a.a1 = b.a1) : a = b := by
  cases a; cases b; simp_all
def norm (a : Fp2) : Fp := a.a0 * a.a0 + a.a1 * a.a1
instance : Add Fp2 := ⟨fun a b => ⟨a.a0 + b.a0, a.a1 + b.a1⟩⟩
instance : Mul Fp2 := ⟨fun a b => ⟨a.a0 * b.a0 - a.a1 * b.a1, a.a0 * b.a1 + a.a1 * b.a0⟩⟩
instance : Neg Fp2 := ⟨fun a => ⟨-a.a0, -a.a1⟩⟩
instance : Sub Fp2 := ⟨fun a b => ⟨a.a0 - b.a0, a.a1 - b.a1⟩⟩
def inv (a : Fp2) : Fp2 := ⟨a.a0 * fpInv (norm a), -(a.a1 * fpInv (norm a))⟩
theorem add_def (a b : Fp2) : a + b = ⟨a.a0 + b.a0, a.a1 + b.a1⟩ := rfl
theorem mul_def (a b : Fp2) : a * b = ⟨a.a0 * b.a0 - a.a1 * b.a1, a.a0 * b.a1 + a.a1 * b.a0⟩ := rfl
theorem neg_def (a : Fp2) : -a = ⟨-a.a0, -a.a1⟩ := rfl
theorem sub_def (a b : Fp2) : a - b = ⟨a.a0 - b.a0, a.a1 - b.a1⟩ := rfl
end Fp2
/-- -1 is no square: x x + 1 is never 0 -/
theorem fp_sq_one (x : Fp) : x * x + 1 ≠ 0 := by
  intro h
  have hx : x ≠ 0 := by rintro rfl; revert h; decide
  have h1 := fermat pP_prm (fp_val_ne hx)
  have h2 : (x.val * x.val + 1) % pP = 0 := by
    have := congrArg Fin.val h
    rw [fp_add_val, fp_mul_val, fp_one_val, fp_zero_val, Nat.mod_add_mod] at this
    exact this
  have h3 : x.val * x.val % pP = pP - 1 := by
    have hl : x.val * x.val % pP < pP := Nat.mod_lt _ pP_pos
    have := pP_two
    rw [← Nat.mod_add_mod] at h2
    rcases Nat.lt_or_ge (x.val * x.val % pP + 1) pP with h | h
    · rw [Nat.mod_eq_of_lt h] at h2; omega
    · omega
  have h4 : (x.val * x.val) ^ ((pP - 1) / 2) % pP = pP - 1 := by
    rw [Nat.pow_mod, h3]
    rw [← powM_eq pP 256 (pP - 1) ((pP - 1) / 2) (by decide)]
    kernel_rfl
  rw [← Nat.pow_two, ← Nat.pow_mul] at h4
  rw [show 2 * ((pP - 1) / 2) = pP - 1 by decide, h1] at h4
  revert h4; decide
theorem fp_norm_ne (a b : Fp) (h : a * a + b * b = (Fld.zero : Fp)) : a = (Fld.zero : Fp) ∧ b = (Fld.zero : Fp) := by
  by_cases hb : b = (Fld.zero : Fp)
  · subst hb
    rw [Fld.mul_zero, Fld.add_zero] at h
    rcases Fld.mul_eq_zero h with e | e <;> exact ⟨e, rfl⟩
  · exfalso
    have hbi := Fld.mul_inv hb
    apply fp_sq_one (a * Fld.inv b)
    generalize Fld.inv b = k at hbi
    have : a * k * (a * k) + Fld.one = (Fld.int 0 : Fp) := by
      have h' : a * a + b * b = (Fld.int 0 : Fp) := h
      have h1 : b * k = (Fld.int 1 : Fp) := hbi
      have := ring_lin [a, b, k] [(v 2 * v 2, v 0 * v 0 + v 1 * v 1, 0), (-(v 1 * v 2) - 1, v 1 * v 2, 1)] (v 0 * v 2 * (v 0 * v 2) + 1) 0 ⟨h', h1, trivial⟩ (by kernel_rfl)
      exact this
    exact this
open Fp2 in
instance : Fld Fp2 where
  zero := ⟨Fld.zero, Fld.zero⟩
  one := ⟨Fld.one, Fld.zero⟩
  inv := Fp2.inv
  dec := inferInstance
  add_comm' := fun a b => Fp2.ext (Fld.add_comm _ _) (Fld.add_comm _ _)
  add_assoc' := fun a b c => Fp2.ext (Fld.add_assoc _ _ _) (Fld.add_assoc _ _ _)
  zero_add' := fun a => Fp2.ext (Fld.zero_add _) (Fld.zero_add _)
  neg_add' := fun a => Fp2.ext (Fld.neg_add _) (Fld.neg_add _)
  sub_eq' := fun a b => Fp2.ext (Fld.sub_eq _ _) (Fld.sub_eq _ _)
  mul_comm' := fun a b => Fp2.ext
    (ring_id [a.a0, a.a1, b.a0, b.a1] (v 0 * v 2 - v 1 * v 3) (v 2 * v 0 - v 3 * v 1) (by kernel_rfl))
    (ring_id [a.a0, a.a1, b.a0, b.a1] (v 0 * v 3 + v 1 * v 2) (v 2 * v 1 + v 3 * v 0) (by kernel_rfl))
  mul_assoc' := fun a b c => Fp2.ext
    (ring_id [a.a0, a.a1, b.a0, b.a1, c.a0, c.a1] ((v 0 * v 2 - v 1 * v 3) * v 4 - (v 0 * v 3 + v 1 * v 2) * v 5) (v 0 * (v 2 * v 4 - v 3 * v 5) - v 1 * (v 2 * v 5 + v 3 * v 4)) (by kernel_rfl))
    (ring_id [a.a0, a.a1, b.a0, b.a1, c.a0, c.a1] ((v 0 * v 2 - v 1 * v 3) * v 5 + (v 0 * v 3 + v 1 * v 2) * v 4) (v 0 * (v 2 * v 5 + v 3 * v 4) + v 1 * (v 2 * v 4 - v 3 * v 5)) (by kernel_rfl))
  one_mul' := fun a => Fp2.ext
    (ring_id [a.a0, a.a1] (1 * v 0 - 0 * v 1) (v 0) (by kernel_rfl))
    (ring_id [a.a0, a.a1] (1 * v 1 + 0 * v 0) (v 1) (by kernel_rfl))
  add_mul' := fun a b c => Fp2.ext
    (ring_id [a.a0, a.a1, b.a0, b.a1, c.a0, c.a1] ((v 0 + v 2) * v 4 - (v 1 + v 3) * v 5) ((v 0 * v 4 - v 1 * v 5) + (v 2 * v 4 - v 3 * v 5)) (by kernel_rfl))
    (ring_id [a.a0, a.a1, b.a0, b.a1, c.a0, c.a1] ((v 0 + v 2) * v 5 + (v 1 + v 3) * v 4) ((v 0 * v 5 + v 1 * v 4) + (v 2 * v 5 + v 3 * v 4)) (by kernel_rfl))
  inv_mul' := fun a h => by
    have hn : norm a ≠ (Fld.zero : Fp) := by
      intro e
      obtain ⟨e0, e1⟩ := fp_norm_ne a.a0 a.a1 e
      exact h (Fp2.ext e0 e1)
    have hk : norm a * Fld.inv (norm a) = (Fld.int 1 : Fp) := Fld.mul_inv hn
    show Fp2.mk (a.a0 * Fld.inv (norm a) * a.a0 - -(a.a1 * Fld.inv (norm a)) * a.a1) (a.a0 * Fld.inv (norm a) * a.a1 + -(a.a1 * Fld.inv (norm a)) * a.a0) = Fp2.mk _ _
    unfold norm at *
    generalize Fld.inv (a.a0 * a.a0 + a.a1 * a.a1) = k at hk
    refine Fp2.ext ?_ ?_
    · exact ring_lin [a.a0, a.a1, k] [(1, (v 0 * v 0 + v 1 * v 1) * v 2, 1)] (v 0 * v 2 * v 0 - (-(v 1 * v 2)) * v 1) 1 ⟨hk, trivial⟩ (by kernel_rfl)
    · exact ring_id [a.a0, a.a1, k] (v 0 * v 2 * v 1 + (-(v 1 * v 2)) * v 0) 0 (by kernel_rfl)
  one_ne' := by
    intro h
    have := congrArg Fp2.a0 h
    exact Fld.one_ne this
/-! the base field's elements as four words, by Montgomery -/
def mR : Nat := 2 ^ 256 % pP
def mRi : Nat := 20988524275117001072002809824448087578619730785600314334253784976379291040311
theorem mR_mRi : mR * mRi % pP = 1 := by kernel_rfl
def mont (x : Fp) : Nat := x.val * mR % pP
def unmont (n : Nat) : Fp := ⟨n * mRi % pP, Nat.mod_lt _ pP_pos⟩
theorem mont_lt (x : Fp) : mont x < pP := Nat.mod_lt _ pP_pos
theorem unmont_mont (x : Fp) : unmont (mont x) = x := by
  apply Fin.ext
  show x.val * mR % pP * mRi % pP = x.val
  rw [Nat.mod_mul_mod, Nat.mul_assoc, Nat.mul_mod, mR_mRi, Nat.mul_one, Nat.mod_mod, Nat.mod_eq_of_lt x.isLt]
theorem mont_unmont {n : Nat} (h : n < pP) : mont (unmont n) = n := by
  show n * mRi % pP * mR % pP = n
  rw [Nat.mod_mul_mod, Nat.mul_assoc, Nat.mul_comm mRi, Nat.mul_mod, mR_mRi, Nat.mul_one, Nat.mod_mod, Nat.mod_eq_of_lt h]
theorem mont_inj {x y : Fp} (h : mont x = mont y) : x = y := by rw [← unmont_mont x, h, unmont_mont]
def wordN (n i : Nat) : Nat := n / 2 ^ (64 * i) % 2 ^ 64
def val4 (a b c d : Nat) : Nat := a + 2 ^ 64 * (b + 2 ^ 64 * (c + 2 ^ 64 * d))
theorem wordN_val4 {a b c d : Nat} (ha : a < 2 ^ 64) (hb : b < 2 ^ 64) (hc : c < 2 ^ 64) (hd : d < 2 ^ 64) :
    wordN (val4 a b c d) 0 = a ∧ wordN (val4 a b c d) 1 = b ∧ wordN (val4 a b c d) 2 = c ∧ wordN (val4 a b c d) 3 = d := by
  unfold wordN val4
  simp only [Nat.mul_zero, Nat.pow_zero, Nat.mul_one, Nat.reduceMul, Nat.reducePow] at *
  omega
theorem val4_wordN {n : Nat} (h : n < 2 ^ 256) : val4 (wordN n 0) (wordN n 1) (wordN n 2) (wordN n 3) = n := by
  unfold wordN val4
  simp only [Nat.mul_zero, Nat.pow_zero, Nat.mul_one, Nat.reduceMul, Nat.reducePow] at *
  omega
theorem wordN_lt (n i : Nat) : wordN n i < 2 ^ 64 := Nat.mod_lt _ (by decide)
def okLit (a b c d : Nat) : Bool := Nat.blt a (2 ^ 64) && (Nat.blt b (2 ^ 64) && (Nat.blt c (2 ^ 64) && (Nat.blt d (2 ^ 64) && Nat.blt (val4 a b c d) pP)))
theorem okLit_spec {a b c d : Nat} (h : okLit a b c d = true) : a < 2 ^ 64 ∧ b < 2 ^ 64 ∧ c < 2 ^ 64 ∧ d < 2 ^ 64 ∧ val4 a b c d < pP := by
  simp only [okLit, Bool.and_eq_true, Nat.blt, Nat.ble_eq] at h
  exact h
end Go.Proofs.YtnmkmbjbaagojaaGreatDoor
