/- A part of the proof of laws.FnPairUneven. -/
import Derived.Test.YtnmkmbjbaagojaaGreatDoorK27
import Derived.LoopN
import Derived.Laws.AppendOwn
import Derived.Test.YtnmkmbjbaagojaaGreatDoorK28
import Derived.Test.YtnmkmbjbaagojaaGreatDoorK26
namespace Go.Proofs.YtnmkmbjbaagojaaGreatDoor
open Go
set_option maxRecDepth 100000
set_option linter.unusedVariables false
set_option linter.unusedSimpArgs false
/-! pieces that go through blocks and loops, and may end in the middle of a region -/
inductive Px where
  | c (x : Code)
  | o (ops : Array Oper) (l : List Oper)
  | b (id : Nat)
  | l (x : Code)
inductive Hx where
  | c (x : Code)
  | o (ops : Array Oper) (x : Oper)
/-- where an exit leads -/
def afterB (id : Nat) : List Px → Option (List Px)
  | [] => none
  | .b id' :: r => match Nat.beq id' id with
    | true => some r
    | false => afterB id r
  | .c _ :: r => afterB id r
  | .o _ _ :: r => afterB id r
  | .l _ :: r => afterB id r
def headX : Nat → List Px → Option (Hx × List Px)
  | 0, _ => none
  | n + 1, l => match l with
    | [] => none
    | .b _ :: r => headX n r
    | .l c :: r => headX n (.c c :: .l c :: r)
    | .o ops l' :: r => match l' with
      | [] => headX n r
      | x :: l'' => some (.o ops x, .o ops l'' :: r)
    | .c x :: r => match x with
      | .seq a b => headX n (.c a :: .c b :: r)
      | .region _ ops false => headX n (.o ops ops.toList :: r)
      | .block id c => headX n (.c c :: .b id :: r)
      | .loop c => headX n (.c c :: .l c :: r)
      | x => some (.c x, r)
def codeX (C : Ctx) (call : CallF) (N m : Nat) : Nat → List Px → TM → SS → Option (TM × SS × Ex × List Px)
  | 0, l, T, st => some (T, st, .normal, l)
  | n + 1, l, T, st => match headX 16 l with
    | some (.o ops x, r) => match stepS C call N ops T st x with
      | some (T1, st1) => codeX C call N m n r T1 st1
      | none => none
    | some (.c x, r) => match codeS C call N m x T st with
      | some (T1, st1, .normal) => codeX C call N m n r T1 st1
      | some (T1, st1, .exit id) => match afterB id r with
        | some r' => codeX C call N m n r' T1 st1
        | none => none
      | some (T1, st1, .ret) => some (T1, st1, .ret, r)
      | none => none
    | none => none
section
variable {P : Program}
/-- where a loop begins its next round -/
def AtLoop (P : Program) (c : Code) (Q : Exit → Act → World → Prop) (a : Act) (w : World) : Prop :=
  ∀ b k cs, ∃ e a' w', Q e a' w' ∧ Arrives P (lone (b.at a (.inLoop c :: k)) cs w) b k cs e a' w'
theorem loop_round {c : Code} {Q : Exit → Act → World → Prop} {a : Act} {w : World} (h : c.wp P (Exit.then (AtLoop P c Q) Q) a w) (b : Frame) (k : List Item) (cs : List Frame) :
    ∃ e a' w', Q e a' w' ∧ Arrives P (lone (b.at a (.code c :: .inLoop c :: k)) cs w) b k cs e a' w' := by
  obtain ⟨e, a₁, w₁, hq, harr⟩ := h b (.inLoop c :: k) cs
  cases e with
  | normal =>
    obtain ⟨e₂, a₂, w₂, hq₂, harr₂⟩ := hq b k cs
    exact ⟨e₂, a₂, w₂, hq₂, .of_steps harr harr₂⟩
  | exit id => exact ⟨_, a₁, w₁, hq, .pass (x := .inLoop c) rfl (fun _ _ => .inl (by simp)) harr⟩
  | goto l => exact ⟨_, a₁, w₁, hq, .pass (x := .inLoop c) rfl (fun _ _ => .inl (by simp)) harr⟩
  | ret => exact ⟨_, a₁, w₁, hq, .pass (x := .inLoop c) rfl (fun _ _ => .inl (by simp)) harr⟩
  | panic ch => exact ⟨_, a₁, w₁, hq, .pass (x := .inLoop c) rfl (fun _ _ => .inl (by simp)) harr⟩
  | outgrown => exact ⟨_, a₁, w₁, hq, .pass (x := .inLoop c) rfl (fun _ _ => .inl (by simp)) harr⟩
theorem wp_loop_next {c : Code} {Q : Exit → Act → World → Prop} {a : Act} {w : World} (h : c.wp P (Exit.then (AtLoop P c Q) Q) a w) : (Code.loop c).wp P Q a w := by
  intro b k cs
  obtain ⟨e, a', w', hq, harr⟩ := loop_round h b k cs
  exact ⟨e, a', w', hq, .of_steps (.one step_loop) harr⟩
theorem atLoop_next {c : Code} {Q : Exit → Act → World → Prop} {a : Act} {w : World} (h : c.wp P (Exit.then (AtLoop P c Q) Q) a w) : AtLoop P c Q a w := by
  intro b k cs
  obtain ⟨e, a', w', hq, harr⟩ := loop_round h b k cs
  exact ⟨e, a', w', hq, .of_steps (.one step_inLoop) harr⟩
/-- what is to hold, and of the ways out -/
def wpX (P : Program) (Q : Exit → Act → World → Prop) : List Px → (Act → World → Prop) × (Exit → Act → World → Prop)
  | [] => (Q .normal, Q)
  | .c x :: r => (fun a w => x.wp P (Exit.then (wpX P Q r).1 (wpX P Q r).2) a w, (wpX P Q r).2)
  | .o ops l :: r => (fun a w => wpList P ops (Exit.then (wpX P Q r).1 (wpX P Q r).2) l a w, (wpX P Q r).2)
  | .b id :: r => ((wpX P Q r).1, fun e a w => match e with
    | .exit id' => if id' = id then (wpX P Q r).1 a w else (wpX P Q r).2 (.exit id') a w
    | e => (wpX P Q r).2 e a w)
  | .l x :: r => (fun a w => AtLoop P x (Exit.then (wpX P Q r).1 (wpX P Q r).2) a w, (wpX P Q r).2)
theorem wpX_ret {Q : Exit → Act → World → Prop} {a : Act} {w : World} (h : Q .ret a w) : ∀ l : List Px, (wpX P Q l).2 .ret a w
  | [] => h
  | .c _ :: r => wpX_ret h r
  | .o _ _ :: r => wpX_ret h r
  | .b _ :: r => wpX_ret h r
  | .l _ :: r => wpX_ret h r
theorem wpX_exit {Q : Exit → Act → World → Prop} {a : Act} {w : World} {id : Nat} {r' : List Px} (h : (wpX P Q r').1 a w) : ∀ {l : List Px}, afterB id l = some r' → (wpX P Q l).2 (.exit id) a w
  | [], he => by simp [afterB] at he
  | .c _ :: r, he => wpX_exit (l := r) h he
  | .o _ _ :: r, he => wpX_exit (l := r) h he
  | .l _ :: r, he => wpX_exit (l := r) h he
  | .b id' :: r, he => by
    simp only [afterB] at he
    show if id = id' then (wpX P Q r).1 a w else (wpX P Q r).2 (.exit id) a w
    split at he
    · rename_i hb
      have hb := Nat.eq_of_beq_eq_true hb
      have he := Option.some.inj he
      subst he
      rw [if_pos hb.symm]; exact h
    · rename_i hb
      have hb := Nat.ne_of_beq_eq_false hb
      rw [if_neg (fun e => hb e.symm)]
      exact wpX_exit h he
def hdX (P : Program) (Q : Exit → Act → World → Prop) : Hx → List Px → Act → World → Prop
  | .c x, r, a, w => (wpX P Q (.c x :: r)).1 a w
  | .o ops x, r, a, w => ∀ (K : Act → World → Prop) (Q' : Exit → Act → World → Prop), (∀ a w, (wpX P Q r).1 a w → K a w) → if Region.wanted x (yielded ops a.tmps) then x.wp P a w K Q' else K (a.put x.dst undef) w
theorem wpX_head {Q : Exit → Act → World → Prop} {x : Hx} {r : List Px} : ∀ {n : Nat} {l : List Px}, headX n l = some (x, r) → ∀ {a : Act} {w : World}, hdX P Q x r a w → (wpX P Q l).1 a w
  | 0, l, h, _, _, _ => by simp [headX] at h
  | n + 1, l, h, a, w, hw => by
    unfold headX at h
    split at h
    · simp at h
    · exact wpX_head h hw
    · rename_i c r'
      have h1 := wpX_head h hw
      refine atLoop_next (wp_mono h1 fun e a' w' hq => ?_)
      cases e <;> exact hq
    · split at h
      · exact wpX_head h hw
      · simp only [Option.some.injEq, Prod.mk.injEq] at h; obtain ⟨rfl, rfl⟩ := h
        exact wpList_step fun K hK => hw K _ hK
    · split at h
      · have h1 := wpX_head h hw
        refine wp_seq (wp_mono h1 fun e a' w' hq => ?_)
        cases e <;> exact hq
      · exact wp_region_list (wpX_head h hw)
      · have h1 := wpX_head h hw
        refine wp_block (wp_mono h1 fun e a' w' hq => ?_)
        cases e <;> exact hq
      · have h1 := wpX_head h hw
        refine wp_loop_next (wp_mono h1 fun e a' w' hq => ?_)
        cases e <;> exact hq
      · simp only [Option.some.injEq, Prod.mk.injEq] at h; obtain ⟨rfl, rfl⟩ := h
        exact hw
theorem wpX_code {Q : Exit → Act → World → Prop} {c : Code} {a : Act} {w : World} (h : (wpX P Q [.c c]).1 a w) : c.wp P Q a w :=
  wp_mono h fun e a' w' hq => by cases e <;> exact hq
theorem codeX_tr {C : Ctx} (hC : CtxOk P FD C) {call : CallF} (hcall : CallOK P FD call) {N m : Nat} : ∀ (n : Nat) {l : List Px} {T : TM} {st : SS} {T' : TM} {st' : SS} {ex : Ex} {r' : List Px},
    codeX C call N m n l T st = some (T', st', ex, r') → ∀ t ∈ st.tr, t ∈ st'.tr
  | 0, l, T, st, T', st', ex, r', h => by simp only [codeX, Option.some.injEq, Prod.mk.injEq] at h; obtain ⟨rfl, rfl, rfl, _⟩ := h; exact fun _ h => h
  | n + 1, l, T, st, T', st', ex, r', h => by
    unfold codeX at h
    split at h
    · split at h
      · rename_i h1
        exact fun t ht => codeX_tr hC hcall n h t (stepS_tr hcall h1 t ht)
      · simp at h
    · split at h
      · rename_i h1
        exact fun t ht => codeX_tr hC hcall n h t (codeS_tr hC hcall _ h1 t ht)
      · rename_i h1
        split at h
        · exact fun t ht => codeX_tr hC hcall n h t (codeS_tr hC hcall _ h1 t ht)
        · simp at h
      · rename_i h1
        simp only [Option.some.injEq, Prod.mk.injEq] at h; obtain ⟨rfl, rfl, rfl, _⟩ := h
        exact codeS_tr hC hcall _ h1
      · simp at h
    · simp at h
/-- how it goes on -/
def goX (P : Program) (Q : Exit → Act → World → Prop) (ex : Ex) (r : List Px) : Act → World → Prop := match ex with
  | .normal => (wpX P Q r).1
  | .ret => Q .ret
  | .exit _ => fun _ _ => False
theorem codeX_sound {C : Ctx} (hC : CtxOk P FD C) (hm : P.follows .mixedOrders = true) {call : CallF} (hcall : CallOK P FD call) {N m : Nat} : ∀ (n : Nat) {l : List Px} {T : TM} {st : SS} {T' : TM} {st' : SS} {ex : Ex} {r' : List Px},
    codeX C call N m n l T st = some (T', st', ex, r') → ∀ {S : Nat → Nat → Prop} {w0 : World} {V : VE FD}, (∀ t ∈ st'.tr, t.holds V) → ∀ (B : Bs) (a : Act) (w : World), TOK V B N T a → Rep S w0 V B st w → ∀ (Q : Exit → Act → World → Prop),
      (∀ (X : Bs) (a' : Act) (w' : World), TOK V (B ++ X) N T' a' → Rep S w0 V (B ++ X) st' w' → goX P Q ex r' a' w') → (wpX P Q l).1 a w
  | 0, l, T, st, T', st', ex, r', h, S, w0, V, _, B, a, w, ha, hw, Q, hK => by
    simp only [codeX, Option.some.injEq, Prod.mk.injEq] at h; obtain ⟨rfl, rfl, rfl, rfl⟩ := h
    exact hK [] a w (by simpa using ha) (by simpa using hw)
  | n + 1, l, T, st, T', st', ex, r', h, S, w0, V, hh, B, a, w, ha, hw, Q, hK => by
    unfold codeX at h
    split at h
    · rename_i ops x r he
      split at h
      · rename_i T1 st1 h1
        refine wpX_head he fun K Q' hKr => ?_
        refine stepS_sound hC hcall h1 (fun t ht => hh t (codeX_tr hC hcall n h t ht)) ha hw ?_
        intro X a' w' ha' hw'
        refine hKr _ _ (codeX_sound hC hm hcall n h hh _ a' w' ha' hw' Q ?_)
        intro X' a2 w2 h2 h3
        rw [List.append_assoc] at h2 h3
        exact hK (X ++ X') a2 w2 h2 h3
      · simp at h
    · rename_i x r he
      refine wpX_head he (show (wpX P Q (.c x :: r)).1 a w from ?_)
      split at h
      · rename_i T1 st1 h1
        refine codeS_sound hC hm hcall x h1 (fun t ht => hh t (codeX_tr hC hcall n h t ht)) B a w ha hw _ ?_
        intro X a' w' ha' hw'
        show (wpX P Q r).1 a' w'
        refine codeX_sound hC hm hcall n h hh _ a' w' ha' hw' Q ?_
        intro X' a2 w2 h2 h3
        rw [List.append_assoc] at h2 h3
        exact hK (X ++ X') a2 w2 h2 h3
      · rename_i T1 st1 id h1
        split at h
        · rename_i r2 hb
          refine codeS_sound hC hm hcall x h1 (fun t ht => hh t (codeX_tr hC hcall n h t ht)) B a w ha hw _ ?_
          intro X a' w' ha' hw'
          show (wpX P Q r).2 (.exit id) a' w'
          refine wpX_exit ?_ hb
          refine codeX_sound hC hm hcall n h hh _ a' w' ha' hw' Q ?_
          intro X' a2 w2 h2 h3
          rw [List.append_assoc] at h2 h3
          exact hK (X ++ X') a2 w2 h2 h3
        · simp at h
      · rename_i T1 st1 h1
        simp only [Option.some.injEq, Prod.mk.injEq] at h; obtain ⟨rfl, rfl, rfl, rfl⟩ := h
        refine codeS_sound hC hm hcall x h1 hh B a w ha hw _ ?_
        intro X a' w' ha' hw'
        show (wpX P Q r).2 .ret a' w'
        exact wpX_ret (hK X a' w' ha' hw') r
      · simp at h
    · simp at h
/-- a piece without rows: what the temporaries hold, how it ends, what is left, and the cells of a region -/
def runX (C : Ctx) (call : CallF) (N m n : Nat) (c : List Px) (T0 : List (Nat × SV)) (ts : List Nat) (mem : Mem) (rg : Nat) : Option (List SA × Ex × List Px × List SC × List TOp) :=
  match codeX C call N m n c (mkT T0) ⟨mem, 0, 0, [], []⟩ with
  | some (T', st', ex, r) => match pick T' ts, st'.mem[rg]? with
    | some l, some (_, cs) => some (l, ex, r, cs, st'.tr)
    | some l, none => some (l, ex, r, [], st'.tr)
    | none, _ => none
  | none => none
theorem runX_sound {C : Ctx} (hC : CtxOk P FD C) (hm : P.follows .mixedOrders = true) {call : CallF} (hcall : CallOK P FD call) {N m n : Nat} {c : List Px} {T0 : List (Nat × SV)} {ts : List Nat} {mem : Mem} {rg : Nat} {l : List SA} {ex : Ex} {rest : List Px} {cs : List SC}
    (h : runX C call N m n c T0 ts mem rg = some (l, ex, rest, cs, [])) {S : Nat → Nat → Prop} {w0 : World} {V : VE FD} (B : Bs) (a : Act) (w : World) (ha : TOK V B N (mkT T0) a) (hw : Rep S w0 V B ⟨mem, 0, 0, [], []⟩ w) (Q : Exit → Act → World → Prop)
    (hQ : ∀ (X : Bs) (a' : Act) (w' : World), TOK V (B ++ X) N (mkT (zipT ts l)) a' → Keeps S w0 w' → (∀ b o, (B ++ X)[rg]? = some (b, o) → ∃ vs, LIs V (B ++ X) cs vs ∧ HasC w' b o vs) → goX P Q ex rest a' w') : (wpX P Q c).1 a w := by
  unfold runX at h
  split at h
  · rename_i T' st' ex' r hcode
    split at h
    · rename_i l' f cs' hp hg
      simp only [Option.some.injEq, Prod.mk.injEq] at h
      obtain ⟨rfl, rfl, rfl, rfl, htr⟩ := h
      refine codeX_sound hC hm hcall n hcode (by rw [htr]; simp) B a w ha hw Q ?_
      intro X a' w' h1 h2
      exact hQ X a' w' (pick_tok h1 hp) h2.keeps fun b o hb => h2.has rg f _ b o hg hb
    · rename_i l' hp hg
      simp only [Option.some.injEq, Prod.mk.injEq] at h
      obtain ⟨rfl, rfl, rfl, rfl, htr⟩ := h
      refine codeX_sound hC hm hcall n hcode (by rw [htr]; simp) B a w ha hw Q ?_
      intro X a' w' h1 h2
      refine hQ X a' w' (pick_tok h1 hp) h2.keeps fun b o hb => ?_
      have h3 : (B ++ X).length = st'.mem.length := h2.len
      have h4 := (List.getElem?_eq_some_iff.mp hb).1
      rw [h3] at h4
      rw [List.getElem?_eq_getElem h4] at hg
      simp at hg
    · simp at h
  · simp at h
end
/-! rows that grow by append, beside the reckoner's pieces -/
def noK : Nat → Nat → Prop := fun _ _ => False
def rp : Nat → List Value → List Value
  | 0, _ => []
  | n + 1, x => x ++ rp n x
theorem rp_snoc (x : List Value) : ∀ n, rp n x ++ x = rp (n + 1) x
  | 0 => by simp [rp]
  | n + 1 => by
    show (x ++ rp n x) ++ x = x ++ (x ++ rp n x)
    rw [List.append_assoc, rp_snoc x n]; rfl
theorem rp_length (x : List Value) : ∀ n, (rp n x).length = n * x.length
  | 0 => by simp [rp]
  | n + 1 => by
    show (x ++ rp n x).length = _
    rw [List.length_append, rp_length x n, Nat.succ_mul, Nat.add_comm]
theorem grown_of_keeps {w w' : World} (h : Keeps noK w w') : w.grownBy w' none :=
  ⟨h.os, h.tape, h.output, h.size, fun k hk _ => (h.block k hk).none_eq⟩
theorem keeps_grown {w0 w w' : World} {row : Option Nat} (h : Keeps noK w0 w) (hg : w.grownBy w' row) (hr : ∀ k, row = some k → w0.heap.size ≤ k) : Keeps noK w0 w' :=
  ⟨hg.os.trans h.os, hg.tape.trans h.tape, hg.output.trans h.output, Nat.le_trans h.size hg.size, fun b hb => by
    have h1 := hg.block b (Nat.lt_of_lt_of_le hb h.size) (fun e => by have := hr b e.symm; omega)
    rw [h1]; exact h.block b hb⟩
theorem ownsRow_keeps {w w' : World} {base : Nat} {e : TypeId} {size : Nat} {v : Value} {n : Nat} {xs : List Value} (h : w.ownsRow base e size v n xs) (hk : Keeps noK w w') : w'.ownsRow base e size v n xs :=
  h.kept (grown_of_keeps hk) (by cases v.ownBlock <;> simp)
/-- the cells of a row -/
theorem ownsRow_has {w : World} {base : Nat} {e : TypeId} {size : Nat} {v : Value} {n : Nat} {xs : List Value} (h : w.ownsRow base e size v n xs) (hn : 0 < n) :
    ∃ g cap, v = .slice (some ⟨g, 0, none⟩) n cap ∧ base ≤ g ∧ g < w.heap.size ∧ HasC w g 0 xs := by
  rcases h.2 with ⟨_, h0⟩ | ⟨g, cap, cur, rfl, hb, hg, hnc, hcm, hcs, htake⟩
  · omega
  · refine ⟨g, cap, rfl, hb, (Array.getElem?_eq_some_iff.1 hg).1, fun i u hu => ⟨?_, cur, e, hg⟩⟩
    have := h.cells (g := g) rfl i u hu
    have hadd : (⟨g, 0, none⟩ : Addr).add i = ⟨g, 0 + i, none⟩ := by
      unfold Addr.add; split <;> simp_all
    rw [hadd] at this; exact this
theorem ownsRow_nil {w : World} {base : Nat} {e : TypeId} {size : Nat} {v : Value} {xs : List Value} (h : w.ownsRow base e size v 0 xs) (hz : v.ownBlock = none) : v = .slice none 0 0 := by
  rcases h.2 with ⟨h1, _⟩ | ⟨g, cap, cur, rfl, _⟩
  · exact h1
  · simp [Value.ownBlock] at hz
section
variable {V : VE FD}
theorem TOK.start {B : Bs} {N : Nat} {T : TM} {a : Act} (h : TOK V B N T a) (B' : Bs) : TOK V B' N (mkT []) a := ⟨h.size, fun t v hl => by simp [mkT, TM.get] at hl, h.defers⟩
theorem TOK.more {B : Bs} {N : Nat} {l : List (Nat × SV)} {a : Act} (h : TOK V B N (mkT l) a) {t : Nat} {v : SV} {u : Value} (h1 : a.tmps[t]? = some u) (h2 : v.is V B u) : TOK V B N (mkT ((t, v) :: l)) a :=
  ⟨h.size, fun t' v' hl => by
    rw [mkT_get] at hl
    simp only [lk] at hl
    split at hl
    · rename_i e
      have e := Nat.eq_of_beq_eq_true e
      subst e
      simp only [Option.some.injEq] at hl; subst hl
      exact ⟨u, h1, h2⟩
    · exact h.look t' v' (by rw [mkT_get]; exact hl), h.defers⟩
/-- regions that are known already -/
def oldSC (n : Nat) : SC → Bool
  | .lit _ => true
  | .slc r _ _ _ => Nat.blt r n
  | _ => false
theorem oldSC_is {B X : Bs} {x : SC} (h : oldSC B.length x = true) {u : Value} (hu : x.is V (B ++ X) u) : x.is V B u := by
  unfold oldSC at h
  split at h
  · exact hu
  · rename_i r o len cap
    have h : r < B.length := Nat.le_of_ble_eq_true h
    obtain ⟨b, k, h1, h2⟩ := hu
    rw [List.getElem?_append_left h] at h1
    exact ⟨b, k, h1, h2⟩
  · simp at h
/-- some of the temporaries, by the old regions -/
theorem TOK.old {B X : Bs} {N : Nat} {l : List (Nat × SV)} {a : Act} (h : TOK V (B ++ X) N (mkT l) a) : ∀ (l' : List (Nat × SC)), (∀ p ∈ l', (∃ v, lk l p.1 = some v ∧ v = .a (.c p.2)) ∧ oldSC B.length p.2 = true) → TOK V B N (mkT (l'.map fun p => (p.1, .a (.c p.2)))) a
  | [], _ => h.start B
  | (t, x) :: r, hl => by
    have ih := TOK.old h r (fun p hp => hl p (List.mem_cons_of_mem _ hp))
    obtain ⟨⟨v, h1, h2⟩, h3⟩ := hl (t, x) (by simp)
    subst h2
    obtain ⟨u, h4, h5⟩ := h.look t (.a (.c x)) (by rw [mkT_get]; exact h1)
    exact ih.more h4 (oldSC_is h3 h5)
theorem TOK.put1 {B : Bs} {N : Nat} {l : List (Nat × SV)} {a : Act} (h : TOK V B N (mkT l) a) {d : Nat} {v : SV} {u : Value} (hd : d < N) (hv : v.is V B u) : TOK V B N (mkT ((d, v) :: l)) (a.put (some d) u) := by
  have h1 := h.put hd hv
  refine ⟨h1.size, fun t x hl => h1.look t x ?_, h1.defers⟩
  rw [mkT_get] at hl
  rw [TM.get_put, mkT_get]
  simp only [lk] at hl
  split at hl
  · rename_i e
    have e := Nat.eq_of_beq_eq_true e
    rw [if_pos e.symm]; exact hl
  · rename_i e
    have e := Nat.ne_of_beq_eq_false e
    rw [if_neg (fun h => e h.symm)]; exact hl
/-- one region whose cells are known, and one of which none is -/
theorem repAB {w : World} {b1 o1 b2 o2 : Nat} {c : List Value} (h : HasC w b1 o1 c) : Rep noK w V [(b1, o1), (b2, o2)] ⟨[(false, c.map SC.lit), (false, [])], 0, 0, [], []⟩ w := by
  have h1 := (rep0 noK w V 0 []).more1 (b := b1) (o := o1) (c := c.map SC.lit) (v := c) (LIs.lits _ _ _) h nohd
  exact h1.more1 (b := b2) (o := o2) (c := []) (v := []) trivial (fun i v hi => by simp at hi) (fun r m cs b o _ _ i j _ hj => by simp at hj)
theorem repBA {w : World} {b1 o1 b2 o2 : Nat} {c : List Value} (h : HasC w b2 o2 c) : Rep noK w V [(b1, o1), (b2, o2)] ⟨[(false, []), (false, c.map SC.lit)], 0, 0, [], []⟩ w := by
  have h1 := (rep0 noK w V 0 []).more1 (b := b1) (o := o1) (c := []) (v := []) trivial (fun i v hi => by simp at hi) nohd
  exact h1.more1 (b := b2) (o := o2) (c := c.map SC.lit) (v := c) (LIs.lits _ _ _) h (fun r m cs b o h1 h2 i j hi _ => by
    match r, h1 with
    | 0, h1 =>
      simp only [List.nil_append, List.getElem?_cons_zero, Option.some.injEq, Prod.mk.injEq] at h1
      obtain ⟨_, rfl⟩ := h1
      simp at hi
    | r + 1, h1 => simp at h1)
end
/-! impl.lists: its pieces -/
def prL : List (Nat × PrimS) := [(nPoint1, .kc [([.v (aggS vG1)], .tup [aggS vA, litB true])]), (nPoint2, .kc [([.v (aggS vG2)], .tup [aggS vB, litB true])])]
theorem prL_ok : PrimsOK Tryz.prog prL := ⟨kc_all ⟨point1_ok, trivial⟩, kc_all ⟨point2_ok, trivial⟩, trivial⟩
noncomputable def callL : CallF := callS C4 lo0 prL 20 20
theorem callL_ok : CallOK Tryz.prog FD callL := callS_ok C4_ok mixed lo0_ok (prims_ok (l := prL) prL_ok (by kernel_rfl)) 20 20
noncomputable def lsBody : Code := match Tryz.f9.body with | some c => c | none => .skip
def sS (r n c : Nat) : SC := .slc r 0 n c
def sI (n : Nat) : SC := .lit (.int .i64 (.ofNat n))
def sV (v : Value) : SC := .lit v
def aC (x : SC) : SV := .a (.c x)
def nilV : Value := .slice none 0 0
def memA (n : Nat) : Mem := [(false, (rp n vG1).map SC.lit), (false, [])]
def memB (m : Nat) : Mem := [(false, []), (false, (rp m vG2).map SC.lit)]
def tA0 (n m cp cq : Nat) : List (Nat × SV) := [(0, aC (sS 0 n cp)), (1, aC (sS 1 m cq))]
def tsA : List Nat := [38, 40, 25, 26, 27, 1]
def outA0 (v : Value) (n m j cp cq : Nat) : List SA := [.c (sV v), .c (sS 4 1 1), .c (sS 0 n cp), .c (sI n), .c (sI j), .c (sS 1 m cq)]
def tA (v : Value) (n m j cp cq : Nat) : List (Nat × SV) := [(41, aC (sV v)), (1, aC (sS 1 m cq)), (25, aC (sS 0 n cp)), (26, aC (sI n)), (27, aC (sI j))]
def restOf : Option (List SA × Ex × List Px × List SC × List TOp) → List Px
  | some (_, _, r, _, _) => r
  | none => []
/-- the code ahead of the first append, behind it, and behind the first loop -/
noncomputable def kA0 : List Px := restOf (runX C4 callL 63 20 36 [.c lsBody] (tA0 1 0 3 3) tsA (memA 1) 4)
noncomputable def hA : Option (Hx × List Px) := headX 16 kA0
noncomputable def kA : List Px := match hA with | some (_, r) => r | none => []
noncomputable def opA : Oper := match hA with | some (.o _ x, _) => x | _ => default
noncomputable def opsA : Array Oper := match hA with | some (.o o _, _) => o | _ => #[]
noncomputable def kB0 : List Px := restOf (runX C4 callL 63 20 18 [.c lsBody] (tA0 0 0 3 3) [7, 1] [(false, []), (false, [])] 4)
theorem hA_eq : headX 16 kA0 = some (.o opsA opA, kA) := by kernel_rfl
theorem opA_op : opA.op = .call { callee := .builtin .append, args := #[.tmp 38, .tmp 40], argTypes := #[44, 44] } := by kernel_rfl
theorem opA_gd : opA.guard = none := by kernel_rfl
theorem opA_dst : opA.dst = some 41 := by kernel_rfl
theorem stA : ∀ n m : Nat, 0 < n → n ≤ 3 → m ≤ 3 → ∀ cp cq : Nat, runX C4 callL 63 20 36 [.c lsBody] (tA0 n m cp cq) tsA (memA n) 4 = some (outA0 nilV n m 0 cp cq, .normal, kA0, vA.map SC.lit, []) := by
  intro n m h0 h1 h2 cp cq
  match n, h0, h1, m, h2 with
  | 1, _, _, 0, _ => (show _ = _; kernel_rfl)
  | 1, _, _, 1, _ => (show _ = _; kernel_rfl)
  | 1, _, _, 2, _ => (show _ = _; kernel_rfl)
  | 1, _, _, 3, _ => (show _ = _; kernel_rfl)
  | 2, _, _, 0, _ => (show _ = _; kernel_rfl)
  | 2, _, _, 1, _ => (show _ = _; kernel_rfl)
  | 2, _, _, 2, _ => (show _ = _; kernel_rfl)
  | 2, _, _, 3, _ => (show _ = _; kernel_rfl)
  | 3, _, _, 0, _ => (show _ = _; kernel_rfl)
  | 3, _, _, 1, _ => (show _ = _; kernel_rfl)
  | 3, _, _, 2, _ => (show _ = _; kernel_rfl)
  | 3, _, _, 3, _ => (show _ = _; kernel_rfl)
  | n + 4, _, h1, _, _ => exact absurd h1 (by omega)
  | _, _, _, m + 4, h2 => exact absurd h2 (by omega)
theorem stA0 : ∀ m : Nat, m ≤ 3 → ∀ cp cq : Nat, runX C4 callL 63 20 18 [.c lsBody] (tA0 0 m cp cq) [7, 1] [(false, []), (false, [])] 4 = some ([.c (sV nilV), .c (sS 1 m cq)], .normal, kB0, [], []) := by
  intro m h2 cp cq
  match m, h2 with
  | 0, _ => (show _ = _; kernel_rfl)
  | 1, _ => (show _ = _; kernel_rfl)
  | 2, _ => (show _ = _; kernel_rfl)
  | 3, _ => (show _ = _; kernel_rfl)
  | m + 4, h2 => exact absurd h2 (by omega)
theorem nxA : ∀ n j : Nat, j + 1 < n → n ≤ 3 → ∀ (v : Value) (m cp cq : Nat), runX C4 callL 63 20 23 kA (tA v n m j cp cq) tsA (memA n) 4 = some (outA0 v n m (j + 1) cp cq, .normal, kA0, vA.map SC.lit, []) := by
  intro n j h0 h1 v m cp cq
  match n, j, h0, h1 with
  | 2, 0, _, _ => (show _ = _; kernel_rfl)
  | 3, 0, _, _ => (show _ = _; kernel_rfl)
  | 3, 1, _, _ => (show _ = _; kernel_rfl)
  | 0, _, h0, _ => exact absurd h0 (by omega)
  | 1, _, h0, _ => exact absurd h0 (by omega)
  | 2, _ + 1, h0, _ => exact absurd h0 (by omega)
  | 3, _ + 2, h0, _ => exact absurd h0 (by omega)
  | n + 4, _, _, h1 => exact absurd h1 (by omega)
theorem exA : ∀ n j : Nat, j + 1 = n → n ≤ 3 → ∀ (v : Value) (m cp cq : Nat), runX C4 callL 63 20 5 kA (tA v n m j cp cq) [7, 1] (memA n) 4 = some ([.c (sV v), .c (sS 1 m cq)], .normal, kB0, [], []) := by
  intro n j h0 h1 v m cp cq
  match n, j, h0, h1 with
  | 1, 0, _, _ => (show _ = _; kernel_rfl)
  | 2, 1, _, _ => (show _ = _; kernel_rfl)
  | 3, 2, _, _ => (show _ = _; kernel_rfl)
  | 0, _, h0, _ => exact absurd h0 (by omega)
  | 1, _ + 1, h0, _ => exact absurd h0 (by omega)
  | 2, 0, h0, _ => exact absurd h0 (by omega)
  | 2, _ + 2, h0, _ => exact absurd h0 (by omega)
  | 3, 0, h0, _ => exact absurd h0 (by omega)
  | 3, 1, h0, _ => exact absurd h0 (by omega)
  | 3, _ + 3, h0, _ => exact absurd h0 (by omega)
  | n + 4, _, _, h1 => exact absurd h1 (by omega)
/-! the second loop -/
def tB0 (va : Value) (m cq : Nat) : List (Nat × SV) := [(7, aC (sV va)), (1, aC (sS 1 m cq))]
def tsB : List Nat := [56, 58, 43, 44, 45, 7]
def outB0 (v va : Value) (m j cq : Nat) : List SA := [.c (sV v), .c (sS 4 1 1), .c (sS 1 m cq), .c (sI m), .c (sI j), .c (sV va)]
def tB (v va : Value) (m j cq : Nat) : List (Nat × SV) := [(59, aC (sV v)), (7, aC (sV va)), (43, aC (sS 1 m cq)), (44, aC (sI m)), (45, aC (sI j))]
noncomputable def lA0 : List Px := restOf (runX C4 callL 63 20 24 kB0 (tB0 nilV 1 3) tsB (memB 1) 4)
noncomputable def hB : Option (Hx × List Px) := headX 16 lA0
noncomputable def lA : List Px := match hB with | some (_, r) => r | none => []
noncomputable def opB : Oper := match hB with | some (.o _ x, _) => x | _ => default
noncomputable def opsB : Array Oper := match hB with | some (.o o _, _) => o | _ => #[]
noncomputable def lE : List Px := restOf (runX C4 callL 63 20 12 kB0 (tB0 nilV 0 3) [4, 5, 6] (memB 0) 4)
theorem hB_eq : headX 16 lA0 = some (.o opsB opB, lA) := by kernel_rfl
theorem opB_op : opB.op = .call { callee := .builtin .append, args := #[.tmp 56, .tmp 58], argTypes := #[45, 45] } := by kernel_rfl
theorem opB_gd : opB.guard = none := by kernel_rfl
theorem opB_dst : opB.dst = some 59 := by kernel_rfl
def outL (va vb : Value) : List SA := [.c (sV va), .c (sV vb), .c (.lit (.bool true))]
theorem stB : ∀ m : Nat, 0 < m → m ≤ 3 → ∀ (va : Value) (cq : Nat), runX C4 callL 63 20 24 kB0 (tB0 va m cq) tsB (memB m) 4 = some (outB0 nilV va m 0 cq, .normal, lA0, vB.map SC.lit, []) := by
  intro m h0 h2 va cq
  match m, h0, h2 with
  | 1, _, _ => (show _ = _; kernel_rfl)
  | 2, _, _ => (show _ = _; kernel_rfl)
  | 3, _, _ => (show _ = _; kernel_rfl)
  | m + 4, _, h2 => exact absurd h2 (by omega)
theorem stB0 (va : Value) (cq : Nat) : runX C4 callL 63 20 12 kB0 (tB0 va 0 cq) [4, 5, 6] (memB 0) 4 = some (outL va nilV, .ret, lE, [], []) := by kernel_rfl
theorem nxB : ∀ m j : Nat, j + 1 < m → m ≤ 3 → ∀ (v va : Value) (cq : Nat), runX C4 callL 63 20 23 lA (tB v va m j cq) tsB (memB m) 4 = some (outB0 v va m (j + 1) cq, .normal, lA0, vB.map SC.lit, []) := by
  intro n j h0 h1 v va cq
  match n, j, h0, h1 with
  | 2, 0, _, _ => (show _ = _; kernel_rfl)
  | 3, 0, _, _ => (show _ = _; kernel_rfl)
  | 3, 1, _, _ => (show _ = _; kernel_rfl)
  | 0, _, h0, _ => exact absurd h0 (by omega)
  | 1, _, h0, _ => exact absurd h0 (by omega)
  | 2, _ + 1, h0, _ => exact absurd h0 (by omega)
  | 3, _ + 2, h0, _ => exact absurd h0 (by omega)
  | n + 4, _, _, h1 => exact absurd h1 (by omega)
theorem exB : ∀ m j : Nat, j + 1 = m → m ≤ 3 → ∀ (v va : Value) (cq : Nat), runX C4 callL 63 20 11 lA (tB v va m j cq) [4, 5, 6] (memB m) 4 = some (outL va v, .ret, lE, [], []) := by
  intro n j h0 h1 v va cq
  match n, j, h0, h1 with
  | 1, 0, _, _ => (show _ = _; kernel_rfl)
  | 2, 1, _, _ => (show _ = _; kernel_rfl)
  | 3, 2, _, _ => (show _ = _; kernel_rfl)
  | 0, _, h0, _ => exact absurd h0 (by omega)
  | 1, _ + 1, h0, _ => exact absurd h0 (by omega)
  | 2, 0, h0, _ => exact absurd h0 (by omega)
  | 2, _ + 2, h0, _ => exact absurd h0 (by omega)
  | 3, 0, h0, _ => exact absurd h0 (by omega)
  | 3, 1, h0, _ => exact absurd h0 (by omega)
  | 3, _ + 3, h0, _ => exact absurd h0 (by omega)
  | n + 4, _, _, h1 => exact absurd h1 (by omega)
/-! impl.lists: what it gives -/
theorem tok_eval {V : VE FD} {B : Bs} {N : Nat} {l : List (Nat × SV)} {a : Act} (ha : TOK V B N (mkT l) a) {t : Nat} {v : SV} (h : lk l t = some v) : v.is V B (a.eval (.tmp t)) :=
  ha.opnd (x := .tmp t) (by show (mkT l).get t = _; rw [mkT_get]; exact h)
theorem append_step {P : Program} {C : Ctx} (hC : CtxOk P FD C) {Q : Exit → Act → World → Prop} {k0 k : List Px} {ops : Array Oper} {op : Oper} {s x t d : Nat} {i : TyI} {sz by' : Nat} {z : List Value} (hh : headX 16 k0 = some (.o ops op, k))
    (hop : op.op = .call { callee := .builtin .append, args := #[.tmp s, .tmp x], argTypes := #[t, t] }) (hgd : op.guard = none) (hdst : op.dst = some d) (hi : lk C.ty t = some i) (hsl : i.sl = some (sz, by', z)) (hsz : 0 < sz) (hby : by' ≤ 4096)
    {e : Nat} (he : P.underlying t = some (.slice e)) {a : Act} {w : World} {base : Nat} {v : Value} {j : Nat} {xs new : List Value} {g o c : Nat} (hs : a.eval (.tmp s) = v) (hown : w.ownsRow base e sz v j xs) (hx : a.eval (.tmp x) = .slice (some ⟨g, o, none⟩) 1 c)
    (hn : HasC w g o new) (hl : new.length = sz) (h1 : ∀ u ∈ new, u.oneCell' = true) (hj : j ≤ 100) (hbase : base ≤ w.heap.size)
    (h : ∀ v' w', w'.ownsRow base e sz v' (j + 1) (xs ++ new) → w.grownBy w' v.ownBlock → (wpX P Q k).1 (a.put (some d) v') w') : (wpX P Q k0).1 a w := by
  refine wpX_head hh fun K Q' hK => ?_
  have hw : Region.wanted op (yielded ops a.tmps) = true := by unfold Region.wanted; rw [hgd]
  rw [if_pos hw]
  obtain ⟨e', inf, zv, h2, h3, h4, h5, h6, h7, h8⟩ := (hC.ty t i hi).sl sz by' z hsl
  rw [he] at h2
  simp only [Option.some.injEq, TypeDesc.slice.injEq] at h2
  subst h2
  refine wp_append_own w (.tmp s) (.tmp x) t hop base e inf zv sz by' he h3 h6 h4 h5 (by rw [h7]; simpa using h8) hsz v j xs hs hown ⟨g, o, none⟩ 1 c new hx (by rw [hl, Nat.one_mul]) ?_ h1 (by simp only [maxLen]; omega) ?_ hbase ?_
  · intro i' u hu
    have := (hn i' u hu).1
    have hadd : (⟨g, o, none⟩ : Addr).add i' = ⟨g, o + i', none⟩ := by unfold Addr.add; split <;> simp_all
    rw [hadd]; exact this
  · have : (j + 1) * by' ≤ 101 * 4096 := Nat.mul_le_mul (by omega) hby
    omega
  · intro v' w' h9 h10 _
    rw [hdst]
    exact hK _ _ (h v' w' h9 h10)
theorem und44 : Tryz.prog.underlying 44 = some (.slice 63) := by kernel_rfl
theorem und45 : Tryz.prog.underlying 45 = some (.slice 67) := by kernel_rfl
noncomputable def tyA : TyI := match lk C4.ty 44 with | some i => i | none => ⟨0, false, [], [], none, none, 0, none, none, false, []⟩
noncomputable def tyB : TyI := match lk C4.ty 45 with | some i => i | none => ⟨0, false, [], [], none, none, 0, none, none, false, []⟩
theorem tyA_eq : lk C4.ty 44 = some tyA := by kernel_rfl
theorem tyB_eq : lk C4.ty 45 = some tyB := by kernel_rfl
def z0 (n : Nat) : List Value := List.replicate n (.int .u64 0)
theorem tyA_sl : tyA.sl = some (8, 64, z0 8) := by kernel_rfl
theorem tyB_sl : tyB.sl = some (16, 128, z0 16) := by kernel_rfl
theorem vA_len : vA.length = 8 := by kernel_rfl
theorem vB_len : vB.length = 16 := by kernel_rfl
theorem vA_one : ∀ u ∈ vA, u.oneCell' = true := List.all_eq_true.1 (show vA.all (fun u => u.oneCell') = true by kernel_rfl)
theorem vB_one : ∀ u ∈ vB, u.oneCell' = true := List.all_eq_true.1 (show vB.all (fun u => u.oneCell') = true by kernel_rfl)
section
variable {V : VE FD} {Q : Exit → Act → World → Prop} {w0 : World} {bp op cp bq oq cq n m base : Nat}
theorem arr_has {x : List Value} {B X : Bs} {w : World} {l : List (Nat × SV)} {a : Act} {N t : Nat} (ha : TOK V (B ++ X) N (mkT l) a) (ht : lk l t = some (aC (sS 4 1 1)))
    (hc : ∀ b o, (B ++ X)[4]? = some (b, o) → ∃ vs, LIs V (B ++ X) (x.map SC.lit) vs ∧ HasC w b o vs) : ∃ g o, a.eval (.tmp t) = .slice (some ⟨g, o, none⟩) 1 1 ∧ HasC w g o x := by
  obtain ⟨b, o, h1, h2⟩ := tok_eval ha ht
  obtain ⟨vs, h3, h4⟩ := hc b o h1
  have := LIs_fun h3 (LIs.lits V (B ++ X) x)
  subst this
  exact ⟨b, o, h2, h4⟩
theorem has_grown {w w' : World} {row : Option Nat} (hg : w.grownBy w' row) {b o : Nat} {vs : List Value} (h : HasC w b o vs) (hne : some b ≠ row) : HasC w' b o vs := by
  intro i v hi
  obtain ⟨h1, c, t, h2⟩ := h i v hi
  have hlt : b < w.heap.size := (Array.getElem?_eq_some_iff.1 h2).1
  have hb := hg.block b hlt hne
  refine ⟨?_, c, t, by rw [hb]; exact h2⟩
  rw [← h1]
  exact World.cell?_of_block (a := ⟨b, o + i, none⟩) hb
/-- what holds of the worlds on the way -/
structure Way (w0 : World) (w : World) (b o : Nat) (vs : List Value) (e sz : Nat) (base : Nat) (v : Value) (j : Nat) (xs : List Value) : Prop where
  keeps : Keeps noK w0 w
  has : HasC w b o vs
  old : 0 < vs.length → b < base
  w0b : w0.heap.size ≤ base
  le : base ≤ w.heap.size
  own : w.ownsRow base e sz v j xs
theorem Way.piece {w w' : World} {b o : Nat} {vs : List Value} {e sz base : Nat} {v : Value} {j : Nat} {xs : List Value} (h : Way w0 w b o vs e sz base v j xs) (hk : Keeps noK w w') : Way w0 w' b o vs e sz base v j xs :=
  ⟨h.keeps.trans hk, hk.hasC h.has (fun _ _ h => h), h.old, h.w0b, Nat.le_trans h.le hk.size, ownsRow_keeps h.own hk⟩
theorem Way.grow {w w' : World} {b o : Nat} {vs : List Value} {e sz base : Nat} {v v' : Value} {j j' : Nat} {xs xs' : List Value} (h : Way w0 w b o vs e sz base v j xs) (hg : w.grownBy w' v.ownBlock) (hown : w'.ownsRow base e sz v' j' xs') : Way w0 w' b o vs e sz base v' j' xs' := by
  have hb := h.own.lt
  refine ⟨keeps_grown h.keeps hg (fun k hk => Nat.le_trans h.w0b (hb k hk).1), ?_, h.old, h.w0b, Nat.le_trans h.le hg.size, hown⟩
  by_cases hz : 0 < vs.length
  · refine has_grown hg h.has fun e => ?_
    have := (hb b e.symm).1
    have := h.old hz
    omega
  · intro i v hi
    have : vs = [] := List.eq_nil_of_length_eq_zero (by omega)
    subst this
    simp at hi
theorem loopA (hn : n ≤ 3) (hfin : ∀ v a w, TOK V [(bp, op), (bq, oq)] 63 (mkT (tB0 v m cq)) a → Way w0 w bp op (rp n vG1) 63 8 base v n (rp n vA) → (wpX Tryz.prog Q kB0).1 a w) :
    ∀ k j, j + 1 + k = n → ∀ v a w, TOK V [(bp, op), (bq, oq)] 63 (mkT (tA v n m j cp cq)) a → Way w0 w bp op (rp n vG1) 63 8 base v (j + 1) (rp (j + 1) vA) → (wpX Tryz.prog Q kA).1 a w
  | 0, j, hj, v, a, w, ha, hw => by
    refine runX_sound C4_ok mixed callL_ok (exA n j (by omega) hn v m cp cq) _ a w ha (repAB hw.has) Q fun X a' w' ha' hk _ => ?_
    have hj : n = j + 1 := by omega
    refine hfin v a' w' (ha'.old [(7, sV v), (1, sS 1 m cq)] ?_) (by subst hj; exact hw.piece hk)
    intro p hp
    simp only [List.mem_cons, List.not_mem_nil, or_false] at hp
    rcases hp with rfl | rfl <;> exact ⟨⟨_, rfl, rfl⟩, rfl⟩
  | k + 1, j, hj, v, a, w, ha, hw => by
    refine runX_sound C4_ok mixed callL_ok (nxA n j (by omega) hn v m cp cq) _ a w ha (repAB hw.has) Q fun X a' w' ha' hk hc => ?_
    have hw1 := hw.piece hk
    obtain ⟨g, o, hx, hnew⟩ := arr_has (x := vA) (t := 40) ha' rfl hc
    refine append_step C4_ok hA_eq opA_op opA_gd opA_dst tyA_eq tyA_sl (by decide) (by decide) und44 (v := v) (tok_eval ha' (t := 38) rfl) hw1.own hx hnew vA_len vA_one (by omega) hw1.le fun v' w' h1 h2 => ?_
    rw [rp_snoc] at h1
    refine loopA hn hfin k (j + 1) (by omega) v' _ w' ?_ (hw1.grow h2 h1)
    refine TOK.put1 (ha'.old [(1, sS 1 m cq), (25, sS 0 n cp), (26, sI n), (27, sI (j + 1))] ?_) (v := aC (sV v')) (by decide) rfl
    intro p hp
    simp only [List.mem_cons, List.not_mem_nil, or_false] at hp
    rcases hp with rfl | rfl | rfl | rfl <;> exact ⟨⟨_, rfl, rfl⟩, rfl⟩
/-- what is left of it at the end -/
theorem loopB (hm : m ≤ 3) {va : Value} {N : Nat} (hfin : ∀ vb a w, TOK V [(bp, op), (bq, oq)] 63 (mkT (zipT [4, 5, 6] (outL va vb))) a → Way w0 w bq oq (rp m vG2) 67 16 base vb m (rp m vB) → Q .ret a w) :
    ∀ k j, j + 1 + k = m → ∀ v a w, TOK V [(bp, op), (bq, oq)] 63 (mkT (tB v va m j cq)) a → Way w0 w bq oq (rp m vG2) 67 16 base v (j + 1) (rp (j + 1) vB) → (wpX Tryz.prog Q lA).1 a w
  | 0, j, hj, v, a, w, ha, hw => by
    refine runX_sound C4_ok mixed callL_ok (exB m j (by omega) hm v va cq) _ a w ha (repBA hw.has) Q fun X a' w' ha' hk _ => ?_
    have hj : m = j + 1 := by omega
    refine hfin v a' w' (ha'.old [(4, sV va), (5, sV v), (6, .lit (.bool true))] ?_) (by subst hj; exact hw.piece hk)
    intro p hp
    simp only [List.mem_cons, List.not_mem_nil, or_false] at hp
    rcases hp with rfl | rfl | rfl <;> exact ⟨⟨_, rfl, rfl⟩, rfl⟩
  | k + 1, j, hj, v, a, w, ha, hw => by
    refine runX_sound C4_ok mixed callL_ok (nxB m j (by omega) hm v va cq) _ a w ha (repBA hw.has) Q fun X a' w' ha' hk hc => ?_
    have hw1 := hw.piece hk
    obtain ⟨g, o, hx, hnew⟩ := arr_has (x := vB) (t := 58) ha' rfl hc
    refine append_step C4_ok hB_eq opB_op opB_gd opB_dst tyB_eq tyB_sl (by decide) (by decide) und45 (v := v) (tok_eval ha' (t := 56) rfl) hw1.own hx hnew vB_len vB_one (by omega) hw1.le fun v' w' h1 h2 => ?_
    rw [rp_snoc] at h1
    refine loopB (N := N) hm hfin k (j + 1) (by omega) v' _ w' ?_ (hw1.grow h2 h1)
    refine TOK.put1 (ha'.old [(7, sV va), (43, sS 1 m cq), (44, sI m), (45, sI (j + 1))] ?_) (v := aC (sV v')) (by decide) rfl
    intro p hp
    simp only [List.mem_cons, List.not_mem_nil, or_false] at hp
    rcases hp with rfl | rfl | rfl | rfl <;> exact ⟨⟨_, rfl, rfl⟩, rfl⟩
end
/-! a call from a known memory to a known memory, and pieces of it -/
def KSem (P : Program) (f : Nat) (vs : List SV) (M1 M2 : Mem) (v : SV) : Prop := ∀ (S : Nat → Nat → Prop) (w0 : World) (V : VE FD) (B : Bs) (w : World) (us : List Value), Rep S w0 V B ⟨M1, 0, 0, [], []⟩ w → SVs V B vs us →
  Calls P f us.toArray w fun e w' => ∃ u X, e = .returned u ∧ Rep S w0 V (B ++ X) ⟨M2, 0, 0, [], []⟩ w' ∧ v.is V (B ++ X) u
def memoF (f0 : Nat) (vs0 : List SV) (M1 M2 : Mem) (v0 : SV) (call : CallF) : CallF := fun f vs st =>
  match Nat.beq f f0 && (qlsE qsvE vs vs0 && qlsE qmmE st.mem M1) with
  | true => some ({ st with mem := M2 }, v0)
  | false => call f vs st
section
variable {P : Program}
theorem memoF_ok {f0 : Nat} {vs0 : List SV} {M1 M2 : Mem} {v0 : SV} (hfn : ∃ g, P.funcs[f0]? = some g ∧ g.name ≠ "runtime.NumGoroutine" ∧ g.body.isSome = true) (h0 : KSem P f0 vs0 M1 M2 v0) {call : CallF} (hcall : CallOK P FD call) : CallOK P FD (memoF f0 vs0 M1 M2 v0 call) := by
  refine ⟨?_, ?_, ?_⟩
  · intro f vs st st' v h
    unfold memoF at h
    split at h
    · rename_i hb
      simp only [Bool.and_eq_true] at hb
      have e1 := Nat.eq_of_beq_eq_true hb.1
      subst e1; exact hfn
    · exact hcall.fn f vs st st' v h
  · intro f vs st st' v h
    unfold memoF at h
    split at h
    · simp only [Option.some.injEq, Prod.mk.injEq] at h; obtain ⟨rfl, rfl⟩ := h
      exact fun _ h => h
    · exact hcall.tr f vs st st' v h
  · intro f vs st st' v h S w0 V B w us hw hus hh
    unfold memoF at h
    split at h
    · rename_i hb
      simp only [Bool.and_eq_true] at hb
      have e1 := Nat.eq_of_beq_eq_true hb.1
      have e2 := qlsE_eq (fun _ _ => qsvE_eq) hb.2.1
      have e3 := qlsE_eq (fun _ _ => qmmE_eq) hb.2.2
      subst e1; subst e2
      simp only [Option.some.injEq, Prod.mk.injEq] at h; obtain ⟨rfl, rfl⟩ := h
      refine (h0 S w0 V B w us (hw.other e3.symm) hus).mono ?_
      rintro e w' ⟨u, X, h1, h2, h3⟩
      exact ⟨u, X, h1, h2.other rfl, h3⟩
    · exact hcall.sound f vs st st' v h S w0 V B w us hw hus hh
def runXm (C : Ctx) (call : CallF) (N m n : Nat) (c : List Px) (T0 : List (Nat × SV)) (ts : List Nat) (mem : Mem) : Option (List SA × Ex × List Px × Mem × List TOp) :=
  match codeX C call N m n c (mkT T0) ⟨mem, 0, 0, [], []⟩ with
  | some (T', st', ex, r) => match pick T' ts with
    | some l => some (l, ex, r, st'.mem, st'.tr)
    | none => none
  | none => none
theorem runXm_sound {C : Ctx} (hC : CtxOk P FD C) (hm : P.follows .mixedOrders = true) {call : CallF} (hcall : CallOK P FD call) {N m n : Nat} {c : List Px} {T0 : List (Nat × SV)} {ts : List Nat} {mem : Mem} {l : List SA} {ex : Ex} {rest : List Px} {mem' : Mem}
    (h : runXm C call N m n c T0 ts mem = some (l, ex, rest, mem', [])) {S : Nat → Nat → Prop} {w0 : World} {V : VE FD} (B : Bs) (a : Act) (w : World) (ha : TOK V B N (mkT T0) a) (hw : Rep S w0 V B ⟨mem, 0, 0, [], []⟩ w) (Q : Exit → Act → World → Prop)
    (hQ : ∀ (X : Bs) (a' : Act) (w' : World), TOK V (B ++ X) N (mkT (zipT ts l)) a' → Rep S w0 V (B ++ X) ⟨mem', 0, 0, [], []⟩ w' → goX P Q ex rest a' w') : (wpX P Q c).1 a w := by
  unfold runXm at h
  split at h
  · rename_i T' st' ex' r hcode
    split at h
    · rename_i l' hp
      simp only [Option.some.injEq, Prod.mk.injEq] at h
      obtain ⟨rfl, rfl, rfl, rfl, htr⟩ := h
      refine codeX_sound hC hm hcall n hcode (by rw [htr]; simp) B a w ha hw Q ?_
      intro X a' w' h1 h2
      exact hQ X a' w' (pick_tok h1 hp) (h2.other rfl)
    · simp at h
  · simp at h
/-- a piece with rows -/
def runXn (C : Ctx) (call : CallF) (N m n : Nat) (c : List Px) (T0 : List (Nat × SV)) (ts : List Nat) (mem : Mem) (ne : Nat) (ds : List Bool) : Option (List SA × Ex × List Px × Mem × List TOp) :=
  match codeX C call N m n c (mkT T0) ⟨mem, ne, 0, [], ds⟩ with
  | some (T', st', ex, r) => match pick T' ts with
    | some l => some (l, ex, r, st'.mem, st'.tr)
    | none => none
  | none => none
theorem runXn_sound {C : Ctx} (hC : CtxOk P FD C) (hm : P.follows .mixedOrders = true) {call : CallF} (hcall : CallOK P FD call) {N m n : Nat} {c : List Px} {T0 : List (Nat × SV)} {ts : List Nat} {mem : Mem} {ne : Nat} {ds : List Bool} {l : List SA} {ex : Ex} {rest : List Px} {mem' : Mem} {rows : List TOp}
    (h : runXn C call N m n c T0 ts mem ne ds = some (l, ex, rest, mem', rows.reverse)) {S : Nat → Nat → Prop} {w0 : World} {V : VE FD} (hh : ∀ o ∈ rows, o.holds V) (B : Bs) (a : Act) (w : World) (ha : TOK V B N (mkT T0) a) (hw : Rep S w0 V B ⟨mem, 0, 0, [], []⟩ w) (Q : Exit → Act → World → Prop)
    (hQ : ∀ (X : Bs) (a' : Act) (w' : World), TOK V (B ++ X) N (mkT (zipT ts l)) a' → Rep S w0 V (B ++ X) ⟨mem', 0, 0, [], []⟩ w' → goX P Q ex rest a' w') : (wpX P Q c).1 a w := by
  unfold runXn at h
  split at h
  · rename_i T' st' ex' r hcode
    split at h
    · rename_i l' hp
      simp only [Option.some.injEq, Prod.mk.injEq] at h
      obtain ⟨rfl, rfl, rfl, rfl, htr⟩ := h
      refine codeX_sound hC hm hcall n hcode (by rw [htr]; intro t ht; exact hh t (List.mem_reverse.1 ht)) B a w ha (hw.other rfl) Q ?_
      intro X a' w' h1 h2
      exact hQ X a' w' (pick_tok h1 hp) (h2.other rfl)
    · simp at h
  · simp at h
/-- parts of a code -/
def subC : List Nat → Code → Code
  | [], c => c
  | n :: p, c => match c with
    | .seq a b => match n with
      | 0 => subC p a
      | _ => subC p b
    | .block _ c => subC p c
    | .loop c => subC p c
    | .cond _ a b => match n with
      | 0 => subC p a
      | _ => subC p b
    | c => c
def regO : Code → Array Oper
  | .region _ o _ => o
  | _ => #[]
/-- a function's body: its first state -/
theorem calls_body {C : Ctx} (hC : CtxOk P FD C) {f : Nat} {fn : Func} {c : Code} (hf : lk C.fn f = some fn) (hb : fn.body = some c) {vs : List SV} (hn : vs.length ≤ fn.ntmps) {V : VE FD} {B : Bs} {us : List Value} (hu : SVs V B vs us) {w : World} {R : Ending → World → Prop}
    (h : ∀ a, TOK V B fn.ntmps (mkT (argsT 0 vs)) a → (wpX P (bodyPost P fn R) [.c c]).1 a w) : Calls P f us.toArray w R := by
  refine calls_of_wp (hC.fn f fn hf).1 hb (wpX_code (h _ ?_))
  have hul := hu.length
  refine ⟨by simp; omega, ?_, rfl⟩
  intro t v' hl
  obtain ⟨u, _, h2, h3⟩ := argsT_lk 0 hu t v' (by rw [← mkT_get]; exact hl)
  refine ⟨u, ?_, h3⟩
  have ht : t < us.length := (List.getElem?_eq_some_iff.mp (by simpa using h2)).1
  show (us.toArray ++ Array.replicate _ undef)[t]? = some u
  rw [Array.getElem?_append_left (by simpa using ht)]
  simpa using h2
/-- a function's end -/
theorem body_ret {C : Ctx} (hC : CtxOk P FD C) {fn : Func} {S : Nat → Nat → Prop} {w0 : World} {V : VE FD} {B : Bs} {N : Nat} {l : List (Nat × SV)} {mem : Mem} {v : SV} (hres : resList C (mkT l) ⟨mem, 0, 0, [], []⟩ fn.results.toList = some v) {a : Act} {w : World}
    (ha : TOK V B N (mkT l) a) (hw : Rep S w0 V B ⟨mem, 0, 0, [], []⟩ w) {R : Ending → World → Prop} (h : ∀ u, v.is V B u → R (.returned u) w) : bodyPost P fn R .ret a w := by
  obtain ⟨u, hu, hr⟩ := resList_sound hC hres ha hw
  exact ⟨ha.defers, u, hr, h u hu⟩
end
/-! impl.lists aas a whole -/
def outS (va vb : Value) : SV := .tup (outL va vb)
theorem ls_res (va vb : Value) (M : Mem) : resList C4 (mkT (zipT [4, 5, 6] (outL va vb))) ⟨M, 0, 0, [], []⟩ Tryz.f9.results.toList = some (outS va vb) := by kernel_rfl
theorem ls_body : Tryz.f9.body = some lsBody := by kernel_rfl
theorem ls_fn : lk C4.fn 9 = some Tryz.f9 := by kernel_rfl
theorem ls_nt : Tryz.f9.ntmps = 63 := by kernel_rfl
/-- what impl.lists leaves behind -/
structure Lists (w w' : World) (n m : Nat) (va vb : Value) : Prop where
  keeps : Keeps noK w w'
  own : ∃ s, w'.ownsRow w.heap.size 63 8 va n (rp n vA) ∧ (∀ g, va.ownBlock = some g → g < s) ∧ w.heap.size ≤ s ∧ w'.ownsRow s 67 16 vb m (rp m vB)
  nila : n = 0 → va = nilV
  nilb : m = 0 → vb = nilV
theorem outS_is {V : VE FD} {B : Bs} {va vb u : Value} (h : (outS va vb).is V B u) : u = .tuple #[va, vb, .bool true] := by
  obtain ⟨vs, h1, h2⟩ := h
  match vs, h1 with
  | [a, b, c], ⟨h3, h4, h5, _⟩ =>
    have h3 : a = va := h3
    have h4 : b = vb := h4
    have h5 : c = .bool true := h5
    subst h3; subst h4; subst h5
    exact h2
theorem lists_ok {n m : Nat} (hn : n ≤ 3) (hm : m ≤ 3) {w : World} {bp op cp bq oq cq : Nat} (hp : HasC w bp op (rp n vG1)) (hq : HasC w bq oq (rp m vG2)) :
    Calls Tryz.prog 9 #[.slice (some ⟨bp, op, none⟩) n cp, .slice (some ⟨bq, oq, none⟩) m cq] w fun e w' => ∃ va vb, e = .returned (.tuple #[va, vb, .bool true]) ∧ Lists w w' n m va vb := by
  have V : VE FD := ⟨fun _ => (0 : Fp), fun _ => 0⟩
  have hu : SVs V [(bp, op), (bq, oq)] [aC (sS 0 n cp), aC (sS 1 m cq)] [.slice (some ⟨bp, op, none⟩) n cp, .slice (some ⟨bq, oq, none⟩) m cq] :=
    ⟨⟨bp, op, rfl, rfl⟩, ⟨bq, oq, rfl, rfl⟩, trivial⟩
  refine calls_body C4_ok ls_fn ls_body (by rw [ls_nt]; exact Nat.le_of_ble_eq_true rfl) hu fun a0 ha0 => ?_
  rw [ls_nt] at ha0
  -- the second loop
  have phaseB : ∀ va a1 w1, TOK V [(bp, op), (bq, oq)] 63 (mkT (tB0 va m cq)) a1 → Way w w1 bp op (rp n vG1) 63 8 w.heap.size va n (rp n vA) → (n = 0 → va = nilV) →
      (wpX Tryz.prog (bodyPost Tryz.prog Tryz.f9 fun e w' => ∃ va vb, e = .returned (.tuple #[va, vb, .bool true]) ∧ Lists w w' n m va vb) kB0).1 a1 w1 := by
    intro va a1 w1 ha1 hw1 hnil
    have hq1 : HasC w1 bq oq (rp m vG2) := hw1.keeps.hasC hq (fun _ _ h => h)
    have ret : ∀ vb a w2, TOK V [(bp, op), (bq, oq)] 63 (mkT (zipT [4, 5, 6] (outL va vb))) a → Way w1 w2 bq oq (rp m vG2) 67 16 w1.heap.size vb m (rp m vB) → (m = 0 → vb = nilV) →
        bodyPost Tryz.prog Tryz.f9 (fun e w' => ∃ va vb, e = .returned (.tuple #[va, vb, .bool true]) ∧ Lists w w' n m va vb) .ret a w2 := by
      intro vb a w2 ha hw2 hnb
      refine body_ret C4_ok (ls_res va vb _) ha (repBA (b1 := bp) (o1 := op) hw2.has) fun u hu => ?_
      have hu := outS_is hu
      subst hu
      refine ⟨va, vb, rfl, hw1.keeps.trans hw2.keeps, ⟨w1.heap.size, ownsRow_keeps hw1.own hw2.keeps, fun g hg => (hw1.own.lt g hg).2, hw1.le, hw2.own⟩, hnil, hnb⟩
    have way0 : Way w1 w1 bq oq (rp m vG2) 67 16 w1.heap.size nilV 0 [] :=
      ⟨Keeps.refl _ _, hq1, fun h => hq1.lt h, Nat.le_refl _, Nat.le_refl _, World.ownsRow_nil _ _ _ _⟩
    rcases Nat.eq_zero_or_pos m with h0 | h0
    · subst h0
      refine runX_sound C4_ok mixed callL_ok (stB0 va cq) _ a1 w1 ha1 (repBA hq1) _ fun X a' w' ha' hk _ => ?_
      refine ret nilV a' w' (ha'.old [(4, sV va), (5, sV nilV), (6, .lit (.bool true))] ?_) (way0.piece hk) (fun _ => rfl)
      intro p hp
      simp only [List.mem_cons, List.not_mem_nil, or_false] at hp
      rcases hp with rfl | rfl | rfl <;> exact ⟨⟨_, rfl, rfl⟩, rfl⟩
    · refine runX_sound C4_ok mixed callL_ok (stB m h0 hm va cq) _ a1 w1 ha1 (repBA hq1) _ fun X a' w' ha' hk hc => ?_
      have hw2 := way0.piece hk
      obtain ⟨g, o, hx, hnew⟩ := arr_has (x := vB) (t := 58) ha' rfl hc
      refine append_step C4_ok hB_eq opB_op opB_gd opB_dst tyB_eq tyB_sl (by decide) (by decide) und45 (v := nilV) (tok_eval ha' (t := 56) rfl) hw2.own hx hnew vB_len vB_one (by omega) hw2.le fun v' w' h1 h2 => ?_
      have h1 : w'.ownsRow w1.heap.size 67 16 v' (0 + 1) (rp (0 + 1) vB) := by
        have e : rp (0 + 1) vB = [] ++ vB := by simp [rp]
        rw [e]; exact h1
      refine loopB (N := 0) (cq := cq) hm (fun vb a w2 h3 h4 => ret vb a w2 h3 h4 (fun h => absurd h (by omega))) (m - 1) 0 (by omega) v' _ w' ?_ (hw2.grow h2 h1)
      refine TOK.put1 (ha'.old [(7, sV va), (43, sS 1 m cq), (44, sI m), (45, sI 0)] ?_) (v := aC (sV v')) (by decide) rfl
      intro p hp
      simp only [List.mem_cons, List.not_mem_nil, or_false] at hp
      rcases hp with rfl | rfl | rfl | rfl <;> exact ⟨⟨_, rfl, rfl⟩, rfl⟩
  have way0 : Way w w bp op (rp n vG1) 63 8 w.heap.size nilV 0 [] :=
    ⟨Keeps.refl _ _, hp, fun h => hp.lt h, Nat.le_refl _, Nat.le_refl _, World.ownsRow_nil _ _ _ _⟩
  rcases Nat.eq_zero_or_pos n with h0 | h0
  · subst h0
    refine runX_sound C4_ok mixed callL_ok (stA0 m hm cp cq) _ a0 w ha0 (repAB hp) _ fun X a' w' ha' hk _ => ?_
    refine phaseB nilV a' w' (ha'.old [(7, sV nilV), (1, sS 1 m cq)] ?_) (way0.piece hk) (fun _ => rfl)
    intro p hp
    simp only [List.mem_cons, List.not_mem_nil, or_false] at hp
    rcases hp with rfl | rfl <;> exact ⟨⟨_, rfl, rfl⟩, rfl⟩
  · refine runX_sound C4_ok mixed callL_ok (stA n m h0 hn hm cp cq) _ a0 w ha0 (repAB hp) _ fun X a' w' ha' hk hc => ?_
    have hw2 := way0.piece hk
    obtain ⟨g, o, hx, hnew⟩ := arr_has (x := vA) (t := 40) ha' rfl hc
    refine append_step C4_ok hA_eq opA_op opA_gd opA_dst tyA_eq tyA_sl (by decide) (by decide) und44 (v := nilV) (tok_eval ha' (t := 38) rfl) hw2.own hx hnew vA_len vA_one (by omega) hw2.le fun v' w' h1 h2 => ?_
    have h1 : w'.ownsRow w.heap.size 63 8 v' (0 + 1) (rp (0 + 1) vA) := by
      have e : rp (0 + 1) vA = [] ++ vA := by simp [rp]
      rw [e]; exact h1
    refine loopA (cp := cp) (cq := cq) (m := m) hn (fun v a w2 h3 h4 => phaseB v a w2 h3 h4 (fun h => absurd h (by omega))) (n - 1) 0 (by omega) v' _ w' ?_ (hw2.grow h2 h1)
    refine TOK.put1 (ha'.old [(1, sS 1 m cq), (25, sS 0 n cp), (26, sI n), (27, sI 0)] ?_) (v := aC (sV v')) (by decide) rfl
    intro p hp
    simp only [List.mem_cons, List.not_mem_nil, or_false] at hp
    rcases hp with rfl | rfl | rfl | rfl <;> exact ⟨⟨_, rfl, rfl⟩, rfl⟩
/-! the call of impl.lists in the middle of a piece -/
theorem call_step {P : Program} {Q : Exit → Act → World → Prop} {k0 k : List Px} {ops : Array Oper} {op : Oper} {x y d f : Nat} {ts : Array TypeId} (hh : headX 16 k0 = some (.o ops op, k))
    (hop : op.op = .call { callee := .value (.func f), args := #[.tmp x, .tmp y], argTypes := ts }) (hgd : op.guard = none) (hdst : op.dst = some d) (hf : ∃ g, P.funcs[f]? = some g ∧ g.name ≠ "runtime.NumGoroutine" ∧ g.body.isSome = true)
    {a : Act} {w : World} {ux uy : Value} (hx : a.eval (.tmp x) = ux) (hy : a.eval (.tmp y) = uy) {R : Ending → World → Prop} (hc : Calls P f #[ux, uy] w R) (hR : ∀ e w', R e w' → ∃ u, e = .returned u ∧ (wpX P Q k).1 (a.put (some d) u) w') : (wpX P Q k0).1 a w := by
  refine wpX_head hh fun K Q' hK => ?_
  have hw : Region.wanted op (yielded ops a.tmps) = true := by unfold Region.wanted; rw [hgd]
  rw [if_pos hw]
  obtain ⟨dst, o, type, pos, after, guard⟩ := op
  simp only at hop hdst
  subst hop; subst hdst
  obtain ⟨g, hg, hname, hbody⟩ := hf
  unfold Oper.wp
  rw [execOp_call_go]
  have e : #[] ++ (#[.tmp x, .tmp y] : Array Operand).map a.eval ++ #[] = #[ux, uy] := by rw [← hx, ← hy]; simp
  rw [e]
  have hrun : (callFunc f #[ux, uy]).run P w = .ok (.enter f #[ux, uy]) w := by
    have hb' : g.body ≠ none := by intro e; rw [e] at hbody; simp at hbody
    simp [callFunc, program, hg, hname, hb', Sem.run]
  rw [hrun, Oper.upon_enter]
  refine hc.mono ?_
  intro e w' he
  obtain ⟨u, rfl, h⟩ := hR e w' he
  exact hK _ _ h
def valS (r n c : Nat) : SC := match n with
  | 0 => .lit nilV
  | n + 1 => .slc r 0 (n + 1) c
theorem rep_fresh {S : Nat → Nat → Prop} {w0 w : World} {V : VE FD} {B : Bs} {mem : Mem} (h : Rep S w0 V B ⟨mem, 0, 0, [], []⟩ w) {g : Nat} {c : List Value} (hc : HasC w g 0 c)
    (hd : 0 < c.length → ∀ (r : Nat) (m : Bool) (cs : List SC) (b o : Nat), mem[r]? = some (m, cs) → B[r]? = some (b, o) → 0 < cs.length → b < g) :
    Rep S w0 V (B ++ [(g, 0)]) ⟨mem ++ [(false, c.map SC.lit)], 0, 0, [], []⟩ w :=
  h.more1 (b := g) (o := 0) (c := c.map SC.lit) (v := c) (LIs.lits _ _ _) hc (fun r m cs b o h1 h2 i j hi hj ⟨e, _⟩ => by
    have hj : j < c.length := by simpa using hj
    have := hd (by omega) r m cs b o h1 h2 (by omega)
    omega)
theorem rep_lt {S : Nat → Nat → Prop} {w0 w : World} {V : VE FD} {B : Bs} {mem : Mem} (h : Rep S w0 V B ⟨mem, 0, 0, [], []⟩ w) {r : Nat} {m : Bool} {cs : List SC} {b o : Nat} (h1 : mem[r]? = some (m, cs)) (h2 : B[r]? = some (b, o)) (hl : 0 < cs.length) : b < w.heap.size := by
  obtain ⟨vs, h3, h4⟩ := h.has r m cs b o h1 h2
  exact h4.lt (by rw [h3.length]; exact hl)
/-- a row aas a symbol -/
theorem row_sym {w : World} {base e sz : Nat} {v : Value} {n : Nat} {xs : List Value} (h : w.ownsRow base e sz v n xs) (h0 : n = 0 → v = nilV ∧ xs = []) : ∃ g c, HasC w g 0 xs ∧ (0 < n → base ≤ g ∧ g < w.heap.size ∧ v.ownBlock = some g) ∧ ∀ (V : VE FD) (B : Bs) (r : Nat), B[r]? = some (g, 0) → (valS r n c).is V B v := by
  rcases Nat.eq_zero_or_pos n with e0 | e0
  · obtain ⟨h1, h2⟩ := h0 e0
    subst e0; subst h1; subst h2
    exact ⟨0, 0, fun i v hi => by simp at hi, fun h => by omega, fun V B r _ => rfl⟩
  · obtain ⟨g, c, rfl, h1, h2, h3⟩ := ownsRow_has h e0
    refine ⟨g, c, h3, fun _ => ⟨h1, h2, rfl⟩, fun V B r hr => ?_⟩
    obtain ⟨k, rfl⟩ : ∃ k, n = k + 1 := ⟨n - 1, by omega⟩
    exact ⟨g, 0, hr, rfl⟩
theorem lists_call {n m : Nat} (hn : n ≤ 3) (hm : m ≤ 3) {Q : Exit → Act → World → Prop} {k0 k : List Px} {ops : Array Oper} {op : Oper} {ts : Array TypeId} (hh : headX 16 k0 = some (.o ops op, k))
    (hop : op.op = .call { callee := .value (.func 9), args := #[.tmp 12, .tmp 13], argTypes := ts }) (hgd : op.guard = none) (hdst : op.dst = some 14) {N : Nat} (hN : 14 < N)
    {w0 w1 : World} {V : VE FD} {B : Bs} {mem : Mem} (hr : Rep noK w0 V B ⟨mem, 0, 0, [], []⟩ w1) {fp fq : Bool} (hmp : mem[2]? = some (fp, (rp n vG1).map SC.lit)) (hmq : mem[3]? = some (fq, (rp m vG2).map SC.lit))
    {l : List (Nat × SV)} {a : Act} {cp cq : Nat} (ha : TOK V B N (mkT l) a) (h12 : lk l 12 = some (aC (sS 2 n cp))) (h13 : lk l 13 = some (aC (sS 3 m cq)))
    (hQ : ∀ ga ca gb cb a' w2, TOK V ((B ++ [(ga, 0)]) ++ [(gb, 0)]) N (mkT ((14, .tup [.c (valS mem.length n ca), .c (valS (mem.length + 1) m cb), .c (.lit (.bool true))]) :: l)) a' →
      Rep noK w0 V ((B ++ [(ga, 0)]) ++ [(gb, 0)]) ⟨(mem ++ [(false, (rp n vA).map SC.lit)]) ++ [(false, (rp m vB).map SC.lit)], 0, 0, [], []⟩ w2 → (wpX Tryz.prog Q k).1 a' w2) : (wpX Tryz.prog Q k0).1 a w1 := by
  obtain ⟨bp, op', hBp, hup⟩ := tok_eval ha h12
  obtain ⟨bq, oq', hBq, huq⟩ := tok_eval ha h13
  obtain ⟨vp, hp1, hp2⟩ := hr.has 2 fp _ bp op' hmp hBp
  have := LIs_fun hp1 (LIs.lits V B _)
  subst this
  obtain ⟨vq, hq1, hq2⟩ := hr.has 3 fq _ bq oq' hmq hBq
  have := LIs_fun hq1 (LIs.lits V B _)
  subst this
  refine call_step hh hop hgd hdst (isFn_ok (by kernel_rfl)) hup huq (lists_ok hn hm hp2 hq2) ?_
  rintro e w2 ⟨va, vb, rfl, hl⟩
  refine ⟨_, rfl, ?_⟩
  have hr2 := hr.still hl.keeps
  obtain ⟨s, hoa, hlt, hs, hob⟩ := hl.own
  obtain ⟨ga, ca, ha1, ha2, ha3⟩ := row_sym hoa (fun h => ⟨hl.nila h, by subst h; rfl⟩)
  obtain ⟨gb, cb, hb1, hb2, hb3⟩ := row_sym hob (fun h => ⟨hl.nilb h, by subst h; rfl⟩)
  have hlen : B.length = mem.length := hr.len
  have hn0 : 0 < (rp n vA).length → 0 < n := by
    intro h
    rcases Nat.eq_zero_or_pos n with e | e
    · subst e; simp [rp] at h
    · exact e
  have hm0 : 0 < (rp m vB).length → 0 < m := by
    intro h
    rcases Nat.eq_zero_or_pos m with e | e
    · subst e; simp [rp] at h
    · exact e
  have hr3 := rep_fresh hr2 ha1 (fun h r f cs b o h1 h2 h3 => by
    have h4 := rep_lt hr h1 h2 h3
    have h5 := (ha2 (hn0 h)).1
    omega)
  have hr4 := rep_fresh hr3 hb1 (fun h r f cs b o h1 h2 h3 => by
    have h5 := (hb2 (hm0 h)).1
    rcases Nat.lt_trichotomy r mem.length with hlt' | heq | hgt
    · rw [List.getElem?_append_left hlt'] at h1
      rw [List.getElem?_append_left (by omega)] at h2
      have h4 := rep_lt hr h1 h2 h3
      omega
    · subst heq
      rw [List.getElem?_append_right (Nat.le_refl _)] at h1
      rw [List.getElem?_append_right (by omega)] at h2
      simp [hlen] at h1 h2
      obtain ⟨_, rfl⟩ := h1
      obtain ⟨rfl, _⟩ := h2
      have h6 := (ha2 (hn0 (by simpa using h3))).2.2
      have := hlt _ h6
      omega
    · rw [List.getElem?_eq_none (by simp; omega)] at h1; simp at h1)
  refine hQ ga ca gb cb _ w2 ?_ hr4
  refine TOK.put1 ((ha.mono [(ga, 0)]).mono [(gb, 0)]) hN ?_
  refine ⟨[va, vb, .bool true], ⟨?_, ?_, rfl, trivial⟩, rfl⟩
  · refine ha3 V _ mem.length ?_
    rw [List.append_assoc, List.getElem?_append_right (by omega), hlen]; simp
  · refine hb3 V _ (mem.length + 1) ?_
    rw [List.append_assoc, List.getElem?_append_right (by omega), hlen]; simp
/-! the context of the loop's digits -/
noncomputable def cTy5 : List (Nat × TyI) := [(119, ⟨1, false, [.slice none 0 0], [], none, none, 5, some (1, 8, [.int .u64 0]), none, false, []⟩),
 (3, ⟨1, false, [.int .i64 0], [], none, some .i64, 2, none, none, true, []⟩),
 (186, ⟨1, false, [.int .u64 0], [], none, some .u64, 2, none, none, true, []⟩),
 (118, ⟨1, false, [.slice none 0 0], [], none, none, 5, some (1, 8, [.int .u64 0]), none, false, []⟩),
 (121, ⟨2, true, [.bool false, .slice none 0 0], [some (0, 1), some (1, 1)], none, none, 7, none, none, false, []⟩),
 (157, ⟨1, false, [.int .u64 0], [], none, some .u64, 2, none, none, true, []⟩),
 (22, ⟨1, false, [.int .u64 0], [], none, some .u64, 2, none, none, true, []⟩),
 (216, ⟨1, false, [.int .u32 0], [], none, some .u32, 2, none, none, true, []⟩),
 (5, ⟨1, false, [.int .u8 0], [], none, some .u8, 2, none, none, true, []⟩),
 (4, ⟨1, false, [.bool false], [], none, none, 1, none, none, true, []⟩),
 (116, ⟨1, false, [.pointer none], [], none, none, 4, none, some 2, true, [("Add", 108), ("And", 107), ("BitLen", 208), ("Cmp", 106), ("Rsh", 109), ("Set", 105), ("SetString", 57), ("SetUint64", 104), ("String", 209), ("loop.example/pub-g03346/pub/bigall.scan", 131), ("loop.example/pub-g03346/pub/bigall.setFromScanner", 102)]⟩),
 (9, ⟨1, false, [.string ⟨#[]⟩], [], none, none, 3, none, none, true, []⟩),
 (56, ⟨1, false, [.nilIface], [], none, none, 6, none, none, true, []⟩),
 (173, ⟨3, true, [.string ⟨#[]⟩, .int .i64 0, .int .i64 0], [some (0, 1), some (1, 1), some (2, 1)], none, none, 7, none, none, true, []⟩),
 (2, ⟨1, false, [.int .i64 0], [], none, some .i64, 2, none, none, true, []⟩),
 (211, ⟨1, false, [.pointer none], [], none, none, 4, none, some 1, true, []⟩),
 (80, ⟨66, true, [.int .i8 0, .int .i8 0, .int .i8 0, .int .i8 0, .int .i8 0, .int .i8 0, .int .i8 0, .int .i8 0, .int .i8 0, .int .i8 0, .int .i8 0, .int .i8 0, .int .i8 0, .int .i8 0, .int .i8 0, .int .i8 0, .int .i8 0, .int .i8 0, .int .i8 0, .int .i8 0, .int .i8 0, .int .i8 0, .int .i8 0, .int .i8 0, .int .i8 0, .int .i8 0, .int .i8 0, .int .i8 0, .int .i8 0, .int .i8 0, .int .i8 0, .int .i8 0, .int .i8 0, .int .i8 0, .int .i8 0, .int .i8 0, .int .i8 0, .int .i8 0, .int .i8 0, .int .i8 0, .int .i8 0, .int .i8 0, .int .i8 0, .int .i8 0, .int .i8 0, .int .i8 0, .int .i8 0, .int .i8 0, .int .i8 0, .int .i8 0, .int .i8 0, .int .i8 0, .int .i8 0, .int .i8 0, .int .i8 0, .int .i8 0, .int .i8 0, .int .i8 0, .int .i8 0, .int .i8 0, .int .i8 0, .int .i8 0, .int .i8 0, .int .i8 0, .int .i8 0, .int .i8 0], [], some (66, 1), none, 8, none, none, true, []⟩),
 (167, ⟨1, false, [.nilIface], [], none, none, 6, none, none, true, []⟩),
 (124, ⟨1, false, [.slice none 0 0], [], none, none, 5, some (1, 1, [.int .i8 0]), none, false, []⟩),
 (79, ⟨1, false, [.int .i8 0], [], none, some .i8, 2, none, none, true, []⟩),
 (21, ⟨1, false, [.int .i32 0], [], none, some .i32, 2, none, none, true, []⟩),
 (127, ⟨1, true, [.string ⟨#[]⟩], [some (0, 1)], none, none, 7, none, none, true, []⟩),
 (150, ⟨1, false, [.pointer none], [], none, none, 4, none, some 3, true, [("Len", 214), ("ReadByte", 215), ("UnreadByte", 216)]⟩),
 (125, ⟨1, false, [.pointer none], [], none, none, 4, none, some 1, true, [("Error", 211)]⟩)]
noncomputable def cFn5 : List (Nat × Func) := [(22, Tryz.f22), (57, Tryz.f57), (103, Tryz.f103), (102, Tryz.f102), (131, Tryz.f131), (148, Tryz.f148), (149, Tryz.f149), (170, Tryz.f170), (171, Tryz.f171), (150, Tryz.f150), (151, Tryz.f151), (182, Tryz.f182), (186, Tryz.f186), (187, Tryz.f187), (188, Tryz.f188), (189, Tryz.f189), (118, Tryz.f118), (177, Tryz.f177), (184, Tryz.f184), (154, Tryz.f154), (172, Tryz.f172), (173, Tryz.f173), (141, Tryz.f141), (157, Tryz.f157), (158, Tryz.f158), (133, Tryz.f133), (159, Tryz.f159), (178, Tryz.f178), (58, Tryz.f58), (104, Tryz.f104), (132, Tryz.f132), (105, Tryz.f105), (106, Tryz.f106), (134, Tryz.f134), (107, Tryz.f107), (136, Tryz.f136), (135, Tryz.f135), (152, Tryz.f152), (174, Tryz.f174), (175, Tryz.f175), (183, Tryz.f183), (153, Tryz.f153), (138, Tryz.f138), (137, Tryz.f137), (155, Tryz.f155), (176, Tryz.f176), (156, Tryz.f156), (139, Tryz.f139), (140, Tryz.f140), (108, Tryz.f108), (109, Tryz.f109), (215, Tryz.f215), (216, Tryz.f216), (23, Tryz.f23)]
noncomputable def C5 : Ctx := ⟨cTy5, cFn5, cEx, [(1, 1)], foldF⟩
theorem C5_ok : CtxOk Tryz.prog FD C5 :=
  ctx_more (C := C5) C0_ok rfl rfl (by kernel_rfl) (by kernel_rfl) (by kernel_rfl) (by kernel_rfl) (by kernel_rfl)
noncomputable def callN5 : CallF := callS C5 lo0 [] 200 20
theorem callN5_ok : CallOK Tryz.prog FD callN5 := callS_ok C5_ok mixed lo0_ok (fun f p h => by simp [lk] at h) 200 20
end Go.Proofs.YtnmkmbjbaagojaaGreatDoor
