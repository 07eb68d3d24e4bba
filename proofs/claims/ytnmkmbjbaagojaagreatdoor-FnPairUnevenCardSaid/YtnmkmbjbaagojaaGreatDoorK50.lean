/- A part of the proof of laws.FnPairUneven. -/
import Derived.Test.YtnmkmbjbaagojaaGreatDoorK49
namespace Go.Proofs.YtnmkmbjbaagojaaGreatDoor
open Go
set_option maxRecDepth 100000
set_option linter.unusedVariables false
set_option linter.unusedSimpArgs false
/-! the law: each pair of small numbers; all others -/
noncomputable def lwBody : Code := match Tryz.f3.body with | some c => c | none => .skip
def iLw (n : Nat) : SA := .c (.lit (.int .i64 (.ofNat n)))
def prLw (n m : Nat) : List (Nat × PrimS) := [(6, .kc [(asP n m 3 3, .tup [aggS z48, litB false]), (asP 3 3 3 3, .tup [aggS vT, litB true])]), (7, .kc [(asP n m 3 3, .tup [litB false, litB false])])]
noncomputable def callLw (n m : Nat) : CallF := callS C4 lo0 (prLw n m) 200 20
theorem callLw_ok {n m : Nat} (hn : n ≤ 3) (hm : m ≤ 3) (h : PR n m) (hc : CR n m) : CallOK Tryz.prog FD (callLw n m) :=
  callS_ok C4_ok mixed lo0_ok (prims_ok (l := prLw n m) ⟨kc_all ⟨pair_refused hn hm h, pair_taken, trivial⟩, kc_all ⟨check_lists hn hm hc, trivial⟩, trivial⟩ (by kernel_rfl)) 200 20
noncomputable def callL0 : CallF := callS C4 lo0 [] 20 5
theorem callL0_ok : CallOK Tryz.prog FD callL0 := callS_ok C4_ok mixed lo0_ok (fun f p h => by simp [lk] at h) 20 5
def resT : SV := .a (litB true)
def asL (n m : Nat) : List KA := [gK, .v (iLw n), .v (iLw m)]
theorem law_leaf {n m : Nat} {call : CallF} (hcall : CallOK Tryz.prog FD call) (hrun : ((.done [] 0 0 resT : PT).ends [] []).map (fun p => runK call 3 (asL n m) p.1) = ((.done [] 0 0 resT : PT).ends [] []).map (fun p => some p.2)) : KOK1 Tryz.prog 3 (asL n m) resT :=
  kc_leaf hcall (asL n m) resT (.done [] 0 0 resT) (PT.chk_of hrun) rfl rfl (by kernel_rfl)
theorem law00 : KOK1 Tryz.prog 3 (asL 0 0) resT := law_leaf (callLw_ok (by decide) (by decide) rfp00 rfc00) (by kernel_rfl)
theorem law01 : KOK1 Tryz.prog 3 (asL 0 1) resT := law_leaf (callLw_ok (by decide) (by decide) rfp01 rfc01) (by kernel_rfl)
theorem law02 : KOK1 Tryz.prog 3 (asL 0 2) resT := law_leaf (callLw_ok (by decide) (by decide) rfp02 rfc02) (by kernel_rfl)
theorem law03 : KOK1 Tryz.prog 3 (asL 0 3) resT := law_leaf (callLw_ok (by decide) (by decide) rfp03 rfc03) (by kernel_rfl)
theorem law10 : KOK1 Tryz.prog 3 (asL 1 0) resT := law_leaf (callLw_ok (by decide) (by decide) rfp10 rfc10) (by kernel_rfl)
theorem law12 : KOK1 Tryz.prog 3 (asL 1 2) resT := law_leaf (callLw_ok (by decide) (by decide) rfp12 rfc12) (by kernel_rfl)
theorem law13 : KOK1 Tryz.prog 3 (asL 1 3) resT := law_leaf (callLw_ok (by decide) (by decide) rfp13 rfc13) (by kernel_rfl)
theorem law20 : KOK1 Tryz.prog 3 (asL 2 0) resT := law_leaf (callLw_ok (by decide) (by decide) rfp20 rfc20) (by kernel_rfl)
theorem law21 : KOK1 Tryz.prog 3 (asL 2 1) resT := law_leaf (callLw_ok (by decide) (by decide) rfp21 rfc21) (by kernel_rfl)
theorem law23 : KOK1 Tryz.prog 3 (asL 2 3) resT := law_leaf (callLw_ok (by decide) (by decide) rfp23 rfc23) (by kernel_rfl)
theorem law30 : KOK1 Tryz.prog 3 (asL 3 0) resT := law_leaf (callLw_ok (by decide) (by decide) rfp30 rfc30) (by kernel_rfl)
theorem law31 : KOK1 Tryz.prog 3 (asL 3 1) resT := law_leaf (callLw_ok (by decide) (by decide) rfp31 rfc31) (by kernel_rfl)
theorem law32 : KOK1 Tryz.prog 3 (asL 3 2) resT := law_leaf (callLw_ok (by decide) (by decide) rfp32 rfc32) (by kernel_rfl)
theorem law11 : KOK1 Tryz.prog 3 (asL 1 1) resT := law_leaf callL0_ok (by kernel_rfl)
theorem law22 : KOK1 Tryz.prog 3 (asL 2 2) resT := law_leaf callL0_ok (by kernel_rfl)
theorem law33 : KOK1 Tryz.prog 3 (asL 3 3) resT := law_leaf callL0_ok (by kernel_rfl)
theorem law_small : ∀ n m : Nat, n ≤ 3 → m ≤ 3 → KOK1 Tryz.prog 3 (asL n m) resT := by
  intro n m hn hm
  match n, hn, m, hm with
  | 0, _, 0, _ => exact law00
  | 0, _, 1, _ => exact law01
  | 0, _, 2, _ => exact law02
  | 0, _, 3, _ => exact law03
  | 1, _, 0, _ => exact law10
  | 1, _, 1, _ => exact law11
  | 1, _, 2, _ => exact law12
  | 1, _, 3, _ => exact law13
  | 2, _, 0, _ => exact law20
  | 2, _, 1, _ => exact law21
  | 2, _, 2, _ => exact law22
  | 2, _, 3, _ => exact law23
  | 3, _, 0, _ => exact law30
  | 3, _, 1, _ => exact law31
  | 3, _, 2, _ => exact law32
  | 3, _, 3, _ => exact law33
  | n + 4, h, _, _ => exact absurd h (by omega)
  | _, _, m + 4, h => exact absurd h (by omega)
noncomputable def tpRun (ds : List Bool) : Option (SS × SV) := (callL0 3 [.a (.c (.iv .i64 0)), .a (.c (.iv .i64 1))] ⟨memK [gK], 0, 2, [], ds⟩).map noMem
theorem out1 : tpRun [true] = some (⟨[], 0, 2, [.cmp .lss (.var 0) (.lit 0) true], []⟩, resT) := by kernel_rfl
theorem out2 : tpRun [false, true] = some (⟨[], 0, 2, [.cmp .lss (.var 1) (.lit 0) true, .cmp .lss (.var 0) (.lit 0) false], []⟩, resT) := by kernel_rfl
theorem out3 : tpRun [false, false, true] = some (⟨[], 0, 2, [.cmp .gtr (.var 0) (.lit 3) true, .cmp .lss (.var 1) (.lit 0) false, .cmp .lss (.var 0) (.lit 0) false], []⟩, resT) := by kernel_rfl
theorem out4 : tpRun [false, false, false, true] = some (⟨[], 0, 2, [.cmp .gtr (.var 1) (.lit 3) true, .cmp .gtr (.var 0) (.lit 3) false, .cmp .lss (.var 1) (.lit 0) false, .cmp .lss (.var 0) (.lit 0) false], []⟩, resT) := by kernel_rfl
/-- the variable that is read -/
def EofIn (w : World) : Prop := ∃ b o, HasC w 1 0 [.iface 125 (.pointer (some ⟨b, o, none⟩))]
theorem law_out {n m : Int} {ds : List Bool} {tr : List TOp} (hrun : tpRun ds = some (⟨[], 0, 2, tr, []⟩, resT)) (hh : ∀ t ∈ tr, t.holds (⟨fun _ => (0 : Fp), fun i => match i with | 0 => n | _ => m⟩ : VE FD)) {w : World} (hw : EofIn w) :
    Calls Tryz.prog 3 #[.int .i64 n, .int .i64 m] w fun e w' => e = .returned (.bool true) ∧ Keeps noK w w' := by
  let V0 : VE FD := ⟨fun _ => (0 : Fp), fun i => match i with | 0 => n | _ => m⟩
  have hk : KArgs FD w [gK] [] := by
    obtain ⟨b, o, h⟩ := hw
    exact ⟨⟨b, o, h⟩, trivial⟩
  obtain ⟨B, hr, _⟩ := repK (V := V0) (B := []) (mem := []) rfl rfl hk (.cons (fun _ h => by simp [kBlk] at h) .nil) (by intro r m cs b o h; simp at h) (rep0 _ w V0 0 [])
  simp only [List.nil_append] at hr
  unfold tpRun at hrun
  obtain ⟨⟨st, v'⟩, h1, h2⟩ := Option.map_eq_some_iff.1 hrun
  simp only [noMem, Prod.mk.injEq, SS.mk.injEq] at h2
  obtain ⟨⟨_, _, _, htr, _⟩, rfl⟩ := h2
  refine (callL0_ok.sound 3 _ _ _ resT h1 (fun _ _ => False) w V0 B w [.int .i64 n, .int .i64 m] (hr.other rfl) ⟨rfl, rfl, trivial⟩ (by rw [htr]; exact hh)).mono ?_
  rintro e w' ⟨u, X, rfl, h3, h4⟩
  have h4 : u = .bool true := h4
  subst h4
  exact ⟨rfl, h3.keeps⟩
theorem law_all (n m : Int) {w : World} (hw : EofIn w) : Calls Tryz.prog 3 #[.int .i64 n, .int .i64 m] w fun e w' => e = .returned (.bool true) ∧ Keeps noK w w' := by
  have lss : ∀ x y : Int, cmpF .lss x y = decide (x < y) := fun _ _ => rfl
  have gtr : ∀ x y : Int, cmpF .gtr x y = decide (x > y) := fun _ _ => rfl
  by_cases h1 : n < 0
  · refine law_out out1 (fun t ht => ?_) hw
    simp only [List.mem_cons, List.not_mem_nil, or_false] at ht
    rcases ht with rfl
    show cmpF .lss n 0 = true
    rw [lss]; exact decide_eq_true h1
  by_cases h2 : m < 0
  · refine law_out out2 (fun t ht => ?_) hw
    simp only [List.mem_cons, List.not_mem_nil, or_false] at ht
    rcases ht with rfl | rfl
    · show cmpF .lss m 0 = true
      rw [lss]; exact decide_eq_true h2
    · show cmpF .lss n 0 = false
      rw [lss]; exact decide_eq_false h1
  by_cases h3 : n > 3
  · refine law_out out3 (fun t ht => ?_) hw
    simp only [List.mem_cons, List.not_mem_nil, or_false] at ht
    rcases ht with rfl | rfl | rfl
    · show cmpF .gtr n 3 = true
      rw [gtr]; exact decide_eq_true h3
    · show cmpF .lss m 0 = false
      rw [lss]; exact decide_eq_false h2
    · show cmpF .lss n 0 = false
      rw [lss]; exact decide_eq_false h1
  by_cases h4 : m > 3
  · refine law_out out4 (fun t ht => ?_) hw
    simp only [List.mem_cons, List.not_mem_nil, or_false] at ht
    rcases ht with rfl | rfl | rfl | rfl
    · show cmpF .gtr m 3 = true
      rw [gtr]; exact decide_eq_true h4
    · show cmpF .gtr n 3 = false
      rw [gtr]; exact decide_eq_false h3
    · show cmpF .lss m 0 = false
      rw [lss]; exact decide_eq_false h2
    · show cmpF .lss n 0 = false
      rw [lss]; exact decide_eq_false h1
  obtain ⟨a, rfl⟩ : ∃ a : Nat, n = .ofNat a := ⟨n.toNat, by show n = (n.toNat : Int); omega⟩
  obtain ⟨b, rfl⟩ : ∃ b : Nat, m = .ofNat b := ⟨m.toNat, by show m = (m.toNat : Int); omega⟩
  have ha : a ≤ 3 := by have : ¬ ((a : Int) > 3) := h3; omega
  have hb : b ≤ 3 := by have : ¬ ((b : Int) > 3) := h4; omega
  refine (law_small a b ha hb w [.int .i64 (.ofNat a), .int .i64 (.ofNat b)] ?_ ?_).mono ?_
  · obtain ⟨b', o, h⟩ := hw
    exact ⟨⟨b', o, h⟩, ⟨⟨fun _ => (0 : Fp), fun _ => 0⟩, [], rfl⟩, ⟨⟨fun _ => (0 : Fp), fun _ => 0⟩, [], rfl⟩, trivial⟩
  · exact .cons (fun _ h => by simp [kBlk] at h) .nil
  · rintro e w' ⟨⟨u, rfl, hu⟩, hk⟩
    have : u = .bool true := hu ⟨fun _ => (0 : Fp), fun _ => 0⟩ []
    subst this
    exact ⟨rfl, hk⟩
end Go.Proofs.YtnmkmbjbaagojaaGreatDoor
