/- A part of the proof of laws.FnPairUneven. -/
import Derived.Test.YtnmkmbjbaagojaaGreatDoorK12
namespace Go.Proofs.YtnmkmbjbaagojaaGreatDoor
open Go
set_option maxRecDepth 100000
set_option linter.unusedVariables false
set_option linter.unusedSimpArgs false
/-! the first pieces of a row of code -/
def headF : Nat → List Code → Option (Code × List Code)
  | 0, _ => none
  | n + 1, l => match l with
    | [] => none
    | c :: r => match c with
      | .seq a b => headF n (a :: b :: r)
      | c => some (c, r)
def dropF : Nat → List Code → List Code
  | 0, l => l
  | n + 1, l => match headF 8 l with
    | some (_, r) => dropF n r
    | none => []
def codeSn (C : Ctx) (call : CallF) (N m : Nat) : Nat → List Code → TM → SS → Option (TM × SS × Ex)
  | 0, _, T, st => some (T, st, .normal)
  | n + 1, l, T, st => match headF 8 l with
    | some (a, r) => match codeS C call N m a T st with
      | some (T1, st1, .normal) => codeSn C call N m n r T1 st1
      | res => res
    | none => none
def segRunN (C : Ctx) (call : CallF) (N m n : Nat) (c : List Code) (T0 : List (Nat × SV)) (ts : Nat → List Nat) (mem : Mem) (ne ni : Nat) : List Bool → Option (SS × SV) := fun ds =>
  match codeSn C call N m n c (mkT T0) ⟨mem, ne, ni, [], ds⟩ with
  | some (T', st', ex) => match pick T' (ts ex.code) with
    | some l => some (st', exV ex l)
    | none => none
  | none => none
section
variable {P : Program}
/-- a row of code, and what is to hold behind it -/
def wpL (P : Program) (Q : Exit → Act → World → Prop) : List Code → Act → World → Prop
  | [], a, w => Q .normal a w
  | c :: r, a, w => c.wp P (Exit.then (wpL P Q r) Q) a w
theorem wpL_seq {Q : Exit → Act → World → Prop} {x y : Code} {r : List Code} {a : Act} {w : World} (h : wpL P Q (x :: y :: r) a w) : wpL P Q (.seq x y :: r) a w := by
  refine wp_seq (wp_mono h ?_)
  intro e a' w' hq
  cases e <;> exact hq
theorem wpL_head {Q : Exit → Act → World → Prop} {x : Code} {r : List Code} : ∀ {n : Nat} {l : List Code}, headF n l = some (x, r) → ∀ {a : Act} {w : World}, wpL P Q (x :: r) a w → wpL P Q l a w
  | 0, l, h, _, _, _ => by simp [headF] at h
  | n + 1, l, h, a, w, hw => by
    unfold headF at h
    split at h
    · simp at h
    · split at h
      · exact wpL_seq (wpL_head h hw)
      · simp only [Option.some.injEq, Prod.mk.injEq] at h; obtain ⟨rfl, rfl⟩ := h
        exact hw
theorem wpL_code {Q : Exit → Act → World → Prop} {c : Code} {a : Act} {w : World} (h : wpL P Q [c] a w) : c.wp P Q a w :=
  wp_mono h fun e a' w' hq => by cases e <;> exact hq
theorem codeSn_tr {C : Ctx} (hC : CtxOk P FD C) {call : CallF} (hcall : CallOK P FD call) {N m : Nat} : ∀ (n : Nat) {l : List Code} {T : TM} {st : SS} {T' : TM} {st' : SS} {ex : Ex},
    codeSn C call N m n l T st = some (T', st', ex) → ∀ t ∈ st.tr, t ∈ st'.tr
  | 0, l, T, st, T', st', ex, h => by simp only [codeSn, Option.some.injEq, Prod.mk.injEq] at h; obtain ⟨rfl, rfl, rfl⟩ := h; exact fun _ h => h
  | n + 1, l, T, st, T', st', ex, h => by
    unfold codeSn at h
    split at h
    · split at h
      · rename_i h1
        exact fun t ht => codeSn_tr hC hcall n h t (codeS_tr hC hcall _ h1 t ht)
      · exact codeS_tr hC hcall _ h
    · simp at h
theorem codeSn_sound {C : Ctx} (hC : CtxOk P FD C) (hm : P.follows .mixedOrders = true) {call : CallF} (hcall : CallOK P FD call) {N m : Nat} : ∀ (n : Nat) {l : List Code} {T : TM} {st : SS} {T' : TM} {st' : SS} {ex : Ex},
    codeSn C call N m n l T st = some (T', st', ex) → ∀ {S : Nat → Nat → Prop} {w0 : World} {V : VE FD}, (∀ t ∈ st'.tr, t.holds V) → ∀ (B : Bs) (a : Act) (w : World), TOK V B N T a → Rep S w0 V B st w → ∀ (Q : Exit → Act → World → Prop),
      (∀ (X : Bs) (a' : Act) (w' : World), TOK V (B ++ X) N T' a' → Rep S w0 V (B ++ X) st' w' → Exit.then (wpL P Q (dropF n l)) Q ex.of a' w') → wpL P Q l a w
  | 0, l, T, st, T', st', ex, h, S, w0, V, _, B, a, w, ha, hw, Q, hK => by
    simp only [codeSn, Option.some.injEq, Prod.mk.injEq] at h; obtain ⟨rfl, rfl, rfl⟩ := h
    have := hK [] a w (by simpa using ha) (by simpa using hw)
    exact this
  | n + 1, l, T, st, T', st', ex, h, S, w0, V, hh, B, a, w, ha, hw, Q, hK => by
    unfold codeSn at h
    have hd : ∀ {x : Code} {r : List Code}, headF 8 l = some (x, r) → dropF (n + 1) l = dropF n r := by
      intro x r he; show (match headF 8 l with | some (_, r) => dropF n r | none => []) = _; rw [he]
    split at h
    · rename_i x r he
      rw [hd he] at hK
      refine wpL_head he ?_
      split at h
      · rename_i T1 st1 h1
        refine codeS_sound hC hm hcall x h1 (fun t ht => hh t (codeSn_tr hC hcall n h t ht)) B a w ha hw _ ?_
        intro X a' w' ha' hw'
        show wpL P Q r a' w'
        refine codeSn_sound hC hm hcall n h hh _ a' w' ha' hw' Q ?_
        intro X' a2 w2 h2 h3
        rw [List.append_assoc] at h2 h3
        exact hK (X ++ X') a2 w2 h2 h3
      · rename_i hne
        refine codeS_sound hC hm hcall x h hh B a w ha hw _ ?_
        intro X a' w' ha' hw'
        have := hK X a' w' ha' hw'
        cases ex with
        | normal => exact (hne _ _ h).elim
        | exit id => exact this
        | ret => exact this
    · simp at h
/-- what the first n pieces come to -/
def SegN (P : Program) (S : Nat → Nat → Prop) (w0 : World) (N n : Nat) (c : List Code) (T0 : List (Nat × SV)) (ts : Nat → List Nat) (mem : Mem) (V V' : VE FD) (mem' : Mem) (v : SV) : Prop :=
  ∀ (B : Bs) (a : Act) (w : World), TOK V B N (mkT T0) a → Rep S w0 V B ⟨mem, 0, 0, [], []⟩ w → ∀ (Q : Exit → Act → World → Prop),
    (∀ (ex : Ex) (l : List SA), v = exV ex l → ∀ (X : Bs) (a' : Act) (w' : World), TOK V' (B ++ X) N (mkT (zipT (ts ex.code) l)) a' → Rep S w0 V' (B ++ X) ⟨mem', 0, 0, [], []⟩ w' → Exit.then (wpL P Q (dropF n c)) Q ex.of a' w') → wpL P Q c a w
theorem seg_runN {C : Ctx} (hC : CtxOk P FD C) (hm : P.follows .mixedOrders = true) {call : CallF} (hcall : CallOK P FD call) {N m n : Nat} {c : List Code} {T0 : List (Nat × SV)} {ts : Nat → List Nat} {mem : Mem} {ne ni : Nat} {ks : List Nat} (t : PT)
    (hchk : t.chk (segRunN C call N m n c T0 ts mem ne ni) [] []) (ho : t.ok ne ni ks = true) (hmem : memIn ne ni mem = true) (hT : T0.all (fun p => svIn ne ni p.2) = true)
    (S : Nat → Nat → Prop) (w0 : World) (V : VE FD) (hk : KsOK V ni ks) : ∃ V', Agree ne ni V V' ∧ t.post V' (SegN P S w0 N n c T0 ts mem V V') := by
  obtain ⟨V', ha, hp⟩ := t.solve ho V hk
  refine ⟨V', ha, t.post_chk hchk (by simp) hp ?_⟩
  intro ds mem' ne' ni' tr v hrun hh
  unfold segRunN at hrun
  split at hrun
  · rename_i T' st' ex hcode
    split at hrun
    · rename_i l hpick
      simp only [Option.some.injEq, Prod.mk.injEq] at hrun
      obtain ⟨rfl, rfl⟩ := hrun
      intro B a w htok hrep Q hQ
      refine codeSn_sound hC hm hcall n hcode hh B a w (htok.agree ha hT) ((hrep.agree ha hmem).other rfl) Q ?_
      intro X a' w' h1 h2
      exact hQ ex l rfl X a' w' (pick_tok h1 hpick) (h2.other rfl)
    · simp at hrun
  · simp at hrun
end
end Go.Proofs.YtnmkmbjbaagojaaGreatDoor
