/- THE LAW laws.FnPairUneven, PROVED: whatever two whole numbers it is given, the call returns true and its arguments read as before; the listed package variables start as the text lays them (the card ties that). Conditions: those of the given row (ifaces, laid). -/
import Derived.Test.YtnmkmbjbaagojaaGreatDoorRows
import Derived.Test.YtnmkmbjbaagojaaGreatDoorCards
import Derived.Test.YtnmkmbjbaagojaaGreatDoorTie
import Derived.ChangeSame
import Derived.ChangeVars
import Derived.JoinedOf
import Derived.RowKit
import Derived.RowKitTokens
import Derived.LaidLaws
import Derived.LaidHandle
import Derived.Stop.Joined
import Derived.Stop.LaidErr
import Derived.Test.YtnmkmbjbaagojaaGreatDoorK50
namespace Go.Proofs.YtnmkmbjbaagojaaGreatDoor
open Go
set_option maxRecDepth 100000
set_option linter.unusedVariables false
set_option linter.unusedSimpArgs false
open Go.ChangeShapes Go.WideShapes Go.RowKit
theorem Tryz.own : ownKnob Tryz.prog.godebug = none := by kernel_rfl
theorem g0 : Tryz.prog.globalNamed "loop.example/pub-g03346/pub/gnarkcrypto/ecc/bn254/fp.errInvalidEncoding" = some 0 := by kernel_rfl
theorem g1 : Tryz.prog.globalNamed "io.EOF" = some 1 := by kernel_rfl
theorem g2 : Tryz.prog.globalNamed "loop.example/pub-g03346/pub/bigall.errInvalSep" = some 2 := by kernel_rfl
theorem g3 : Tryz.prog.globalNamed "loop.example/pub-g03346/pub/bigall.errNoDigits" = some 3 := by kernel_rfl
theorem t0 : (Tryz.prog.globals[0]?).map (·.type) = some 56 := by kernel_rfl
theorem t1 : (Tryz.prog.globals[1]?).map (·.type) = some 56 := by kernel_rfl
theorem t2 : (Tryz.prog.globals[2]?).map (·.type) = some 56 := by kernel_rfl
theorem t3 : (Tryz.prog.globals[3]?).map (·.type) = some 56 := by kernel_rfl
theorem u56 : ∃ ms, Tryz.prog.underlying 56 = some (.interface ms) := ⟨_, Tryz.underlying56⟩
theorem u125 : Tryz.prog.underlying 125 = some (.pointer 127) := by kernel_rfl
theorem u127 : ∃ f, Tryz.prog.underlying 127 = some (.struct #[f]) ∧ f.type = 9 ∧ f.offset = 0 := ⟨_, Tryz.underlying127, rfl, rfl⟩
theorem u9 : Tryz.prog.underlying 9 = some .string := by kernel_rfl
theorem c127 : Tryz.prog.cellsOf 127 = 1 := by kernel_rfl
theorem c9 : Tryz.prog.cellsOf 9 = 1 := by kernel_rfl
theorem star : "*" ++ "errors.errorString" = "*errors.errorString" := by decide
theorem row125 (u : TypeId) (h : Tryz.prog.typeName? 3 u = some "*errors.errorString") : u = 125 :=
  typeName_ptr_named (nm := "errors.errorString") (by rw [star]; kernel_rfl) (by kernel_rfl) (by decide) u (by rw [star]; exact h)
/-- a listed variable, and its cell -/
theorem sentinel {n : String} {text : List UInt8} {r : List (String × DataW Unit)} {W : World} {g : Nat} (h : laidMet Tryz.prog ((n, .iface "*errors.errorString" (.ptr (.agg [.lit (.string text)]))) :: r) W)
    (hg : Tryz.prog.globalNamed n = some g) (ht : (Tryz.prog.globals[g]?).map (·.type) = some 56) :
    ∃ b o, W.var? Tryz.prog n = some #[.iface 125 (.pointer (some ⟨b, o, none⟩))] ∧ HasC W g 0 [.iface 125 (.pointer (some ⟨b, o, none⟩))] := by
  obtain ⟨ms, hu⟩ := u56
  obtain ⟨f, hf, hf1, hf2⟩ := u127
  obtain ⟨⟨b, o, sp⟩, s, hv, hc, _, _⟩ := laid_sentinel h hg ht hu row125 u125 hf hf1 hf2 u9 c127 c9
  have hsp : sp = none := by
    unfold World.cell? at hc
    split at hc
    · cases sp with
      | none => rfl
      | some x => simp at hc
    · simp at hc
  subst hsp
  have hcell : W.cell? ⟨g, 0, none⟩ = some (.iface 125 (.pointer (some ⟨b, o, none⟩))) := by simpa using World.var?_cell hg hv 0
  refine ⟨b, o, hv, ?_⟩
  obtain ⟨ps, ⟨g', t', cs0, f0, p0, q0, hg0, ht0, hv0, hd0, _, e0⟩, _, hrows⟩ := h
  obtain rfl := Option.some.inj (hg.symm.trans hg0)
  subst e0
  have hpl := (hrows g 0 (by
    have e := hv.symm.trans hv0
    have e := Option.some.inj e
    subst e
    simp [MemPlace.row])).1
  intro i v hi
  match i, hi with
  | 0, hi =>
    have hi : some _ = some v := hi
    have hi := Option.some.inj hi
    subst hi
    obtain ⟨c, t, hct⟩ := hpl
    exact ⟨hcell, c, t, hct⟩
  | i + 1, hi => simp at hi
theorem var_keeps {W W' : World} (hk : Keeps noK W W') {n : String} {cs : Array Value} (h : W.var? Tryz.prog n = some cs) : W'.var? Tryz.prog n = some cs := by
  unfold World.var? at h ⊢
  cases hg : Tryz.prog.globalNamed n with
  | none => simp [hg] at h
  | some g =>
    simp only [hg, Option.bind_some] at h ⊢
    have hlt : g < W.heap.size := by
      rcases Nat.lt_or_ge g W.heap.size with h' | h'
      · exact h'
      · simp [Array.getElem?_eq_none h'] at h
    have hb : W'.heap[g]? = W.heap[g]? := (hk.block g hlt).none_eq
    rw [hb]; exact h
theorem vars_read3 {H : Type} (enc : TypeId × Value → H) {W : World} {n0 n1 n2 : String} {g0 g1 g2 : Nat} {x0 x1 x2 : Value}
    (hg0 : Tryz.prog.globalNamed n0 = some g0) (ht0 : (Tryz.prog.globals[g0]?).map (·.type) = some 56) (h0 : W.var? Tryz.prog n0 = some #[x0]) (i0 : IsIface x0)
    (hg1 : Tryz.prog.globalNamed n1 = some g1) (ht1 : (Tryz.prog.globals[g1]?).map (·.type) = some 56) (h1 : W.var? Tryz.prog n1 = some #[x1]) (i1 : IsIface x1)
    (hg2 : Tryz.prog.globalNamed n2 = some g2) (ht2 : (Tryz.prog.globals[g2]?).map (·.type) = some 56) (h2 : W.var? Tryz.prog n2 = some #[x2]) (i2 : IsIface x2) (sp : Nat → Bool) :
    DataW.TrodVars enc Tryz.prog W sp [n0, n1, n2] [tok enc x0, tok enc x1, tok enc x2] [.cell g0 0, .cell g1 0, .cell g2 0] := by
  obtain ⟨ms, hu⟩ := u56
  exact ⟨g0, 56, #[x0], 1, [], [.cell g1 0, .cell g2 0], hg0, ht0, h0, trod_held hu i0 0, ⟨g1, 56, #[x1], 1, [], [.cell g2 0], hg1, ht1, h1, trod_held hu i1 0, ⟨g2, 56, #[x2], 1, [], [], hg2, ht2, h2, trod_held hu i2 0, rfl, rfl⟩, rfl⟩, rfl⟩
abbrev laid4 : List (String × DataW Unit) := [("loop.example/pub-g03346/pub/gnarkcrypto/ecc/bn254/fp.errInvalidEncoding", Rows.laid_loop_example_pub_g03346_pub_gnarkcrypto_ecc_bn254_fp_errInvalidEncoding), ("io.EOF", Rows.laid_io_EOF), ("loop.example/pub-g03346/pub/bigall.errNoDigits", Rows.laid_loop_example_pub_g03346_pub_bigall_errNoDigits), ("loop.example/pub-g03346/pub/bigall.errInvalSep", Rows.laid_loop_example_pub_g03346_pub_bigall_errInvalSep)]
theorem laid_plain {W : World} : laidMetH Tryz.prog laid4 W ↔ laidMet Tryz.prog laid4 W := by
  have e : (laid4.filter fun x => x.2.handleName?.isSome) = [] := by kernel_rfl
  unfold laidMetH
  rw [e]
/-! one start that fits -/
abbrev s0 : ByteArray := { data := #[105, 110, 118, 97, 108, 105, 100, 32, 102, 112, 46, 69, 108, 101, 109, 101, 110, 116, 32, 101, 110, 99, 111, 100, 105, 110, 103] }
abbrev s1 : ByteArray := { data := #[69, 79, 70] }
abbrev s2 : ByteArray := { data := #[39, 95, 39, 32, 109, 117, 115, 116, 32, 115, 101, 112, 97, 114, 97, 116, 101, 32, 115, 117, 99, 99, 101, 115, 115, 105, 118, 101, 32, 100, 105, 103, 105, 116, 115] }
abbrev s3 : ByteArray := { data := #[110, 117, 109, 98, 101, 114, 32, 104, 97, 115, 32, 110, 111, 32, 100, 105, 103, 105, 116, 115] }
noncomputable def low : Nat := (World.holding Tryz.prog default ⟨#[], #[], []⟩).heap.size
noncomputable def setV (n : Nat) : Obj → Obj
  | .cells _ t frozen => .cells #[.iface 125 (.pointer (some ⟨n, 0, none⟩))] t frozen
  | o => o
noncomputable def laidWorld (os : Os) : World :=
  let w0 := World.holding Tryz.prog os ⟨#[.cells #[.string s0] 127, .cells #[.string s1] 127, .cells #[.string s2] 127, .cells #[.string s3] 127], #[], []⟩
  { w0 with heap := (((w0.heap.modify 0 (setV low)).modify 1 (setV (low + 1))).modify 2 (setV (low + 2))).modify 3 (setV (low + 3)) }
theorem laidWorld_met (os : Os) (args : Array Value) : laidMetH Tryz.prog laid4 ((laidWorld os).forCall (fun _ _ => 0) ⟨#[], args, []⟩).memory :=
  laid_plain.2 (laidMet_of_run (ps := [.cell 0 0, .cell low 0, .cell 1 0, .cell (low + 1) 0, .cell 3 0, .cell (low + 3) 0, .cell 2 0, .cell (low + 2) 0]) 8 (by kernel_rfl) (by kernel_rfl) (by kernel_rfl))
theorem law_lifted (os : Os) (started : os.Started) (H : Type) (enc : TypeId × Value → H) :
    ReturnsInHanded {} Tryz.checked os 3 .any (fun w args => (Rows.fnPairUnevenSpec.pre enc Tryz.prog Tryz.f3 [] false w args ∧ laidMetH Tryz.prog laid4 w) ∧ sizedMet enc Tryz.prog Tryz.f3 (OpenSpec.ofChange Rows.fnPairUnevenSpec) false w args)
      (Rows.fnPairUnevenSpec.post enc Tryz.prog Tryz.f3 false true false false) := by
  refine returnsInHanded_of_change_and (C := Tryz.checked) (X := fun w _ => laidMetH Tryz.prog laid4 w) (fun _ _ _ hh h => h.of_heap hh) Tryz.own started (by kernel_rfl) Tryz.func3
    (ChangeSpec.witness_at (enc := enc) (C := Tryz.checked) (os := os) (X := fun w _ => laidMetH Tryz.prog laid4 w) false (laidWorld os) #[.int .i64 0, .int .i64 0] 8 rfl (by kernel_rfl) (by kernel_rfl) (by kernel_rfl) (by kernel_rfl) (by kernel_rfl) (laidWorld_met os _)) ?_
  intro W base args ds gs before hval0 hW _ _ hL _
  have hval : ∀ (j : Nat) t v, Tryz.f3.params[j]? = some t → args[j]? = some v → Value.okWide Tryz.prog W .any base t v := hval0
  have hW' := hW
  obtain ⟨p, q, hA0, hV0, rfl, hfz, hnd⟩ := hW
  have hA : DataW.TrodAll enc Tryz.prog W 0 (fun _ => true) true Tryz.f3.params.toList args.toList ds p := hA0
  have hV : DataW.TrodVars enc Tryz.prog W (fun _ => true) ["loop.example/pub-g03346/pub/gnarkcrypto/ecc/bn254/fp.errInvalidEncoding", "loop.example/pub-g03346/pub/bigall.errInvalSep", "loop.example/pub-g03346/pub/bigall.errNoDigits"] gs q := hV0
  rw [Tryz.params3] at hA hval
  obtain ⟨v0, v1, d0, d1, p0, p1, rfl, rfl, rfl, h0, h1⟩ := trodAll_two hA
  obtain ⟨n, rfl, rfl, rfl, wn⟩ := open_int Tryz.underlying3 (hval 0 3 v0 rfl rfl) h0
  obtain ⟨m, rfl, rfl, rfl, wm⟩ := open_int Tryz.underlying3 (hval 1 3 v1 rfl rfl) h1
  have hl0 : laidMet Tryz.prog laid4 W := laid_plain.1 hL
  have hl1 := laidMet.tail hl0
  have hl2 := laidMet.tail hl1
  have hl3 := laidMet.tail hl2
  obtain ⟨b0, o0, hv0, _⟩ := sentinel hl0 g0 t0
  obtain ⟨b1, o1, _, hc1⟩ := sentinel hl1 g1 t1
  obtain ⟨b3, o3, hv3, _⟩ := sentinel hl2 g3 t3
  obtain ⟨b2, o2, hv2, _⟩ := sentinel hl3 g2 t2
  obtain ⟨rfl, rfl⟩ := hV.unique (vars_read3 enc g0 t0 hv0 trivial g2 t2 hv2 trivial g3 t3 hv3 trivial _)
  have e1 : Rows.fnPairUnevenSpec.fn H ([.lit (.int .i64 n), .lit (.int .i64 m)] ++ [tok enc (.iface 125 (.pointer (some ⟨b0, o0, none⟩))), tok enc (.iface 125 (.pointer (some ⟨b2, o2, none⟩))), tok enc (.iface 125 (.pointer (some ⟨b3, o3, none⟩)))]) =
      { results := [.lit (.bool true)], args := [.lit (.int .i64 n), .lit (.int .i64 m)], vars := [tok enc (.iface 125 (.pointer (some ⟨b0, o0, none⟩))), tok enc (.iface 125 (.pointer (some ⟨b2, o2, none⟩))), tok enc (.iface 125 (.pointer (some ⟨b3, o3, none⟩)))] } := by simp [Rows.fnPairUnevenSpec]
  refine (law_all n m ⟨b1, o1, hc1⟩).mono fun e W' ⟨he, hk⟩ => ?_
  subst he
  refine ⟨_, rfl, _, _, _, [], [], [.cell 0 0, .cell 2 0, .cell 3 0], hW', ?_, ?_, ?_, ?_, fun h => by cases h⟩
  · rw [e1]; exact trodAll_mk1 (shut_bool Tryz.underlying4 true)
  · rw [e1]; exact trodAll_mk2 (p := []) (p' := []) (shut_int Tryz.underlying3 wn) (shut_int Tryz.underlying3 wm)
  · rw [e1]; exact vars_read3 enc g0 t0 (var_keeps hk hv0) trivial g2 t2 (var_keeps hk hv2) trivial g3 t3 (var_keeps hk hv3) trivial _
  · exact World.keptBut_mono (fun _ h => h.elim) (World.keptBut_none_iff.2 ⟨hk.os, hk.output, fun i hi => (hk.block i hi).none_eq⟩)
theorem row_holds : Rows.FnPairUnevenSaid :=
  OpenClaim.holds_of_wide 3 Tryz.f3 rfl rfl rfl rfl rfl rfl rfl ⟨rfl, rfl, rfl, rfl, rfl⟩ rfl rfl rfl rfl rfl (by kernel_rfl) Tryz.func3 (by kernel_rfl)
    (of_decide_eq_true (by kernel_rfl)) (by unfold Func.isWrapper; rw [if_neg (of_decide_eq_false (by kernel_rfl))]; exact ⟨rfl, rfl⟩)
    (fun os started H enc _ => law_lifted os started H enc)
theorem card_holds : Rows.FnPairUnevenCardSaid :=
  Claim7.holds_tied_plain_at .later [] [.sentinel, .sentinel, .sentinel, .sentinel] true (true, "f659e196afbe3fac90de769e7f033cf3623667751ca0529d13082f7595721d43") true
    row_holds (fun _ h => by cases h) (by kernel_rfl) (fun _ h => by cases h) fnPairUneven_row_tie rfl ⟨rfl, rfl⟩ (by kernel_rfl) rfl
    (fun f fn hf hfn => by
      obtain rfl : f = 3 := Option.some.inj ((show Tryz.prog.funcNamed "loop.example/pub-g03346/laws.FnPairUneven" = some 3 by kernel_rfl).symm.trans hf) |>.symm
      obtain rfl : fn = Tryz.f3 := (Option.some.inj (Tryz.func3.symm.trans hfn)).symm
      exact ⟨by kernel_rfl, fun j t ht => by
        rw [Tryz.params3] at ht
        have h3 : t = 3 := by
          rcases j with _ | _ | j
          · simpa using ht.symm
          · simpa using ht.symm
          · simp at ht
        subst h3
        exact (show Tryz.prog.wantsStandIn 3 = false by kernel_rfl)⟩)
    (by kernel_rfl)
end Go.Proofs.YtnmkmbjbaagojaaGreatDoor
