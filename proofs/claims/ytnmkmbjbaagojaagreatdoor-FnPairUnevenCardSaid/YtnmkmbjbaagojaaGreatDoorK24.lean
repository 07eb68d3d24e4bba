/- A part of the proof of laws.FnPairUneven. -/
import Derived.Test.YtnmkmbjbaagojaaGreatDoorK23
import Derived.Test.YtnmkmbjbaagojaaGreatDoorK14
namespace Go.Proofs.YtnmkmbjbaagojaaGreatDoor
open Go
set_option maxRecDepth 100000
set_option linter.unusedVariables false
set_option linter.unusedSimpArgs false
/-! the inverse -/
theorem xs_regs {b o b1 o1 : Nat} (hne : ¬ (b = b1 ∧ o = o1)) (hap : Apart 4 b o b1 o1) : ∀ i j, i < 4 → j < 4 → ¬ (b1 = b ∧ o1 + i = o + j) := by
  intro i j hi hj h
  exact hap.off hne j i hj hi ⟨h.1.symm, h.2.symm⟩
theorem inverse_ok : PrimOK Tryz.prog FD nInverse (.p (.eun 3)) := by
  intro w b o b1 o1 e old hz hol hx hap
  refine calls_of_wp (fn := Tryz.f144) (c := bodyI) Tryz.func144 (by kernel_rfl) ?_
  refine wpL_code (show wpL Tryz.prog (bodyPost Tryz.prog Tryz.f144 (RInv w b o e)) cL _ w from ?_)
  have hlt : b < w.heap.size := hz.lt (by omega)
  have hrw0 : Rep noS w (⟨fun _ => e, fun _ => 0⟩ : VE FD) [(b1, o1), (b, o)] ⟨[(false, w0 0), (false, [])], 0, 0, [], []⟩ w := by
    have h1 := (rep0 noS w (⟨fun _ => e, fun _ => 0⟩ : VE FD) 0 []).more1 (b := b1) (o := o1) (c := w0 0) (v := words4 (D := FD) e) ⟨rfl, rfl, rfl, rfl, trivial⟩ hx nohd
    exact h1.more1 (b := b) (o := o) (c := []) (v := []) trivial (fun i v h => by simp at h) (fun r m cs b' o' _ _ i j _ hj => by simp at hj)
  have hta0 : TOK (⟨fun _ => e, fun _ => 0⟩ : VE FD) [(b1, o1), (b, o)] 239 (mkT [(0, .a (pz 1)), (1, .a (pz 0))]) { tmps := #[pt b o, pt b1 o1] ++ Array.replicate (Tryz.f144.ntmps - 2) undef, defers := [] } := by
    refine ⟨by simp, ?_, rfl⟩
    intro t v hl
    rw [mkT_get] at hl
    simp only [lk] at hl
    split at hl
    · rename_i h; have h := Nat.eq_of_beq_eq_true h; subst h
      simp only [Option.some.injEq] at hl; subst hl
      exact ⟨pt b o, by rw [Array.getElem?_append_left (by simp)]; rfl, b, o, rfl, rfl⟩
    · split at hl
      · rename_i h; have h := Nat.eq_of_beq_eq_true h; subst h
        simp only [Option.some.injEq] at hl; subst hl
        exact ⟨pt b1 o1, by rw [Array.getElem?_append_left (by simp)]; rfl, b1, o1, rfl, rfl⟩
      · simp at hl
  refine head_ok (w0' := w) (b := b) (o := o) (b1 := b1) (o1 := o1) (e := e) ?_ (V := ⟨fun _ => e, fun _ => 0⟩) rfl hta0 hrw0
  intro V X a w2 hk he hzz hta hrw
  have hta := pick_tok hta (ts := [0, 1, 7, 15]) (l := [pz 1, pz 0, pz 4, pz 5]) (by kernel_rfl)
  by_cases hal : b = b1 ∧ o = o1
  · obtain ⟨rfl, rfl⟩ := hal
    refine tailA (B := (b, o) :: (b, o) :: X) rfl hk he hzz ?_
    intro Q hQ
    have hta : TOK V ((b, o) :: (b, o) :: X) 239 (mkT (zipT [0, 1, 7, 15] [pz 0, pz 0, pz 4, pz 5])) a := hta.re ⟨fun u h => h, fun u h => h, fun u h => h, fun u h => h, trivial⟩
    have hrw : Rep (Rg b o 4) w V ((b, o) :: (b, o) :: X) ⟨((true, w0 0) :: (false, []) :: [(true, one4), (true, cl 5), (true, cl 9), (true, cl 0)] : Mem), 0, 0, [], []⟩ w2 := by
      refine hrw.re (fun _ _ h => h.elim) ⟨⟨rfl, fun _ h => h⟩, ⟨rfl, fun _ h => h⟩, ⟨rfl, fun _ h => h⟩, ⟨rfl, fun _ h => h⟩, ⟨rfl, fun _ h => h⟩, ⟨rfl, fun _ h => h⟩, trivial⟩ ?_
      intro r cs b' o' i hm hB hi hb
      match r, hm with
      | 0, hm =>
        simp only [List.getElem?_cons_zero, Option.some.injEq, Prod.mk.injEq, true_and] at hm hB
        subst hm
        obtain ⟨rfl, rfl⟩ := hB
        exact ⟨rfl, by omega, by have : i < 4 := hi; omega⟩
      | 1, hm => simp at hm
      | r + 2, hm => exact (hrw.wr (r + 2) cs b' o' i hm hB hi hb).elim
    obtain ⟨W, hag, hp⟩ := seg_runN C1_ok mixed callI_ok iT2A iT2A_chk (ks := kT) (by kernel_rfl) rfl (by kernel_rfl) (Rg b o 4) w V hk
    have g : ∀ i, i < 16 → W.it i = V.it i := fun i hi => hag.2 i hi
    refine (iT2A_res (hk.of_agree hag) hp).go' rfl hta hrw ?_
    rintro V2 hel hk2 ⟨e', h9, h0⟩ a1 w1 h1 h2
    show wpL Tryz.prog Q (dropF 2 (dropF 12 cL)) a1 w1
    rw [e14]
    refine hQ V2 a1 w1 ?_ hk2 ⟨e', h9, fun h => ?_⟩ h1 h2
    · show V2.el 0 = e
      rw [hel, hag.1 0 (by omega)]; exact he
    · obtain ⟨z0, z1, z2, z3⟩ := hzz h
      exact h0 (by rw [g 0 (by omega), z0]) (by rw [g 1 (by omega), z1]) (by rw [g 2 (by omega), z2]) (by rw [g 3 (by omega), z3])
  · match old, hol with
    | [q0, q1, q2, q3], _ =>
      have hlen : ((b1, o1) :: (b, o) :: X).length = 6 := hrw.len
      have hB6 : ((b1, o1) :: (b, o) :: X ++ [(b, o)])[6]? = some (b, o) := by
        have : (6 : Nat) = ((b1, o1) :: (b, o) :: X).length := hlen.symm
        rw [this]; simp
      refine tailB (B := (b1, o1) :: (b, o) :: X ++ [(b, o)]) hB6 hk he hzz ?_
      intro Q hQ
      have hz2 : HasC w2 b o [q0, q1, q2, q3] := hrw.keeps.hasC hz (fun _ _ h => h)
      have hmore := hrw.more1 (b := b) (o := o) (c := [.lit q0, .lit q1, .lit q2, .lit q3]) (v := [q0, q1, q2, q3]) (LIs.lits _ _ [q0, q1, q2, q3]) hz2 (by
        intro r m cs b' o' hm hB i j hi hj h
        obtain ⟨h1, h2⟩ := h
        subst h1
        match r, hm with
        | 0, hm =>
          simp only [memT, List.getElem?_cons_zero, Option.some.injEq, Prod.mk.injEq] at hm hB
          obtain ⟨_, rfl⟩ := hm
          obtain ⟨rfl, rfl⟩ := hB
          exact xs_regs hal hap i j hi hj ⟨rfl, h2⟩
        | 1, hm =>
          simp only [memT, List.getElem?_cons_succ, List.getElem?_cons_zero, Option.some.injEq, Prod.mk.injEq] at hm
          obtain ⟨_, rfl⟩ := hm
          simp at hi
        | 2, hm =>
          simp only [memT, List.getElem?_cons_succ, List.getElem?_cons_zero, Option.some.injEq, Prod.mk.injEq] at hm
          obtain ⟨rfl, rfl⟩ := hm
          exact hrw.wr 2 _ _ _ i rfl hB hi hlt
        | 3, hm =>
          simp only [memT, List.getElem?_cons_succ, List.getElem?_cons_zero, Option.some.injEq, Prod.mk.injEq] at hm
          obtain ⟨rfl, rfl⟩ := hm
          exact hrw.wr 3 _ _ _ i rfl hB hi hlt
        | 4, hm =>
          simp only [memT, List.getElem?_cons_succ, List.getElem?_cons_zero, Option.some.injEq, Prod.mk.injEq] at hm
          obtain ⟨rfl, rfl⟩ := hm
          exact hrw.wr 4 _ _ _ i rfl hB hi hlt
        | 5, hm =>
          simp only [memT, List.getElem?_cons_succ, List.getElem?_cons_zero, Option.some.injEq, Prod.mk.injEq] at hm
          obtain ⟨rfl, rfl⟩ := hm
          exact hrw.wr 5 _ _ _ i rfl hB hi hlt
        | r + 6, hm => simp [memT] at hm)
      have hta : TOK V ((b1, o1) :: (b, o) :: X ++ [(b, o)]) 239 (mkT (zipT [0, 1, 7, 15] [pz 6, pz 0, pz 4, pz 5])) a := by
        have h1 := hta.mono [(b, o)]
        refine h1.re ⟨fun u h => ?_, fun u h => h, fun u h => h, fun u h => h, trivial⟩
        obtain ⟨b', o', hb, rfl⟩ := h
        have hb : some (b, o) = some (b', o') := hb
        simp only [Option.some.injEq, Prod.mk.injEq] at hb
        obtain ⟨rfl, rfl⟩ := hb
        exact ⟨b, o, hB6, rfl⟩
      have hrw2 : Rep (Rg b o 4) w V ((b1, o1) :: (b, o) :: X ++ [(b, o)]) ⟨((false, w0 0) :: (false, []) :: [(true, one4), (true, cl 5), (true, cl 9), (true, cl 0)] ++ [(true, [.lit q0, .lit q1, .lit q2, .lit q3])] : Mem), 0, 0, [], []⟩ w2 := by
        refine hmore.re (fun _ _ h => h.elim) ⟨⟨rfl, fun _ h => h⟩, ⟨rfl, fun _ h => h⟩, ⟨rfl, fun _ h => h⟩, ⟨rfl, fun _ h => h⟩, ⟨rfl, fun _ h => h⟩, ⟨rfl, fun _ h => h⟩, ⟨rfl, fun _ h => h⟩, trivial⟩ ?_
        intro r cs b' o' i hm hB hi hb
        match r, hm with
        | 0, hm => simp at hm
        | 1, hm => simp at hm
        | 2, hm => exact (hmore.wr 2 cs b' o' i hm hB hi hb).elim
        | 3, hm => exact (hmore.wr 3 cs b' o' i hm hB hi hb).elim
        | 4, hm => exact (hmore.wr 4 cs b' o' i hm hB hi hb).elim
        | 5, hm => exact (hmore.wr 5 cs b' o' i hm hB hi hb).elim
        | 6, hm =>
          rw [hB6] at hB
          simp only [Option.some.injEq, Prod.mk.injEq] at hB
          obtain ⟨rfl, rfl⟩ := hB
          have hm : some (true, [SC.lit q0, .lit q1, .lit q2, .lit q3]) = some (true, cs) := hm
          simp only [Option.some.injEq, Prod.mk.injEq, true_and] at hm
          subst hm
          exact ⟨rfl, by omega, by have : i < 4 := hi; omega⟩
        | r + 7, hm => simp at hm
      obtain ⟨W, hag, hp⟩ := seg_runN C1_ok mixed callI_ok iT2B (iT2B_chk q0 q1 q2 q3) (ks := kT) (by kernel_rfl) rfl (by kernel_rfl) (Rg b o 4) w V hk
      have g : ∀ i, i < 16 → W.it i = V.it i := fun i hi => hag.2 i hi
      refine (iT2B_res (hk.of_agree hag) hp).go' rfl hta hrw2 ?_
      rintro V2 hel hk2 ⟨e', h9, h0⟩ a1 w1 h1 h2
      show wpL Tryz.prog Q (dropF 2 (dropF 12 cL)) a1 w1
      rw [e14]
      refine hQ V2 a1 w1 ?_ hk2 ⟨e', h9, fun h => ?_⟩ h1 h2
      · show V2.el 0 = e
        rw [hel, hag.1 0 (by omega)]; exact he
      · obtain ⟨z0, z1, z2, z3⟩ := hzz h
        exact h0 (by rw [g 0 (by omega), z0]) (by rw [g 1 (by omega), z1]) (by rw [g 2 (by omega), z2]) (by rw [g 3 (by omega), z3])
def nFromMont : Nat := nfromMont
end Go.Proofs.YtnmkmbjbaagojaaGreatDoor
