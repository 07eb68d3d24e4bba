/- A part of the proof of laws.FnPairUneven. -/
import Derived.Test.YtnmkmbjbaagojaaGreatDoorK27
import Derived.Test.YtnmkmbjbaagojaaGreatDoorK28
import Derived.Test.YtnmkmbjbaagojaaGreatDoorK32
import Derived.Test.YtnmkmbjbaagojaaGreatDoorK29
namespace Go.Proofs.YtnmkmbjbaagojaaGreatDoor
open Go
set_option maxRecDepth 100000
set_option linter.unusedVariables false
set_option linter.unusedSimpArgs false
/-! the values of the pairing -/
def vM : List Value := W4 9954750375030317739 10596182885049732155 5821909391771000263 3170874933695023620 ++ W4 9652694349055242265 13246099498321067014 12938734499791865138 2544412405763335331 ++ W4 7862184206923316044 9576892312265112647 13753100612222079511 621020544334033713 ++ W4 15337607624694494383 3912812221252724939 8509943730065025930 609801081032488969 ++ W4 9550731505672440328 3003953551342674086 14992195056326344691 2565273137017901403 ++ W4 18138191238494043888 15762480819410884217 12796966912471855649 2578904441942886468 ++ W4 658268969506788527 4098999910173018789 12807252035771207759 1378782091207373291 ++ W4 11351638578031913234 9918487445948430552 9192614465334304231 885533885200173933 ++ W4 982234753950051791 1596383922357528752 6515763147432769472 739899485464568760 ++ W4 5391001422428289351 8296064107057147632 7754856005168529613 1258153226226810987 ++ W4 11496843756468197873 6393271810149662393 11629132427409955133 672227652150292799 ++ W4 13060204857149431239 5198417100901522886 8951187898550327875 776400829119662339
def vA3 : List Value := vA ++ (vA ++ vA)
def vB3 : List Value := vB ++ (vB ++ vB)
/-! the loop's digits aas a leaf -/
def prM : List (Nat × PrimS) := (nLoopCounter, .kc [([gK], rLoop)]) :: pr5
theorem prM_ok : PrimsOK Tryz.prog prM := ⟨kc_all ⟨loop_ok, trivial⟩, pr5_ok⟩
noncomputable def callM : CallF := callS C4 lo0 prM 200 20
theorem callM_ok : CallOK Tryz.prog FD callM := callS_ok C4_ok mixed lo0_ok (prims_ok (l := prM) prM_ok (by kernel_rfl)) 200 20
/-! impl.Pair and impl.Check where the lists are refused -/
def asP (n m cp cq : Nat) : List KA := [gK, .s (rp n vG1) n cp, .s (rp m vG2) m cq]
def z48 : List Value := z0 48
def mP (n m : Nat) : Mem := [(false, []), (false, [.gc 1 1 125 0 0]), (false, (rp n vG1).map SC.lit), (false, (rp m vG2).map SC.lit)]
noncomputable def pBody : Code := match Tryz.f6.body with | some c => c | none => .skip
noncomputable def cBody : Code := match Tryz.f7.body with | some c => c | none => .skip
def tP (n m cp cq : Nat) : List (Nat × SV) := [(0, aC (sS 2 n cp)), (1, aC (sS 3 m cq))]
def oP (n m cp cq : Nat) : List SA := [.c (.ptr 4 0), litB false, .c (sS 2 n cp), .c (sS 3 m cq)]
def oC (n m cp cq : Nat) : List SA := [.c (sS 2 n cp), .c (sS 3 m cq)]
def restM : Option (List SA × Ex × List Px × Mem × List TOp) → List Px
  | some (_, _, r, _, _) => r
  | none => []
noncomputable def kP0 : List Px := restM (runXm C4 callM 32 200 4 [.c pBody] (tP 0 0 3 3) [4, 5, 12, 13] (mP 0 0))
noncomputable def kC0 : List Px := restM (runXm C4 callM 33 200 4 [.c cBody] (tP 0 0 3 3) [12, 13] (mP 0 0))
def mP1 (n m : Nat) : Mem := mP n m ++ [(true, z48.map SC.lit)]
theorem pP1 (n m cp cq : Nat) : runXm C4 callM 32 200 4 [.c pBody] (tP n m cp cq) [4, 5, 12, 13] (mP n m) = some (oP n m cp cq, .normal, kP0, mP1 n m, []) := by kernel_rfl
theorem pC1 (n m cp cq : Nat) : runXm C4 callM 33 200 4 [.c cBody] (tP n m cp cq) [12, 13] (mP n m) = some (oC n m cp cq, .normal, kC0, mP n m, []) := by kernel_rfl
noncomputable def hP : Option (Hx × List Px) := headX 16 kP0
noncomputable def kP : List Px := match hP with | some (_, r) => r | none => []
noncomputable def opP : Oper := match hP with | some (.o _ x, _) => x | _ => default
noncomputable def opsP : Array Oper := match hP with | some (.o o _, _) => o | _ => #[]
noncomputable def hC' : Option (Hx × List Px) := headX 16 kC0
noncomputable def kC : List Px := match hC' with | some (_, r) => r | none => []
noncomputable def opC : Oper := match hC' with | some (.o _ x, _) => x | _ => default
noncomputable def opsC : Array Oper := match hC' with | some (.o o _, _) => o | _ => #[]
theorem hP_eq : headX 16 kP0 = some (.o opsP opP, kP) := by kernel_rfl
theorem opP_op : opP.op = .call { callee := .value (.func 9), args := #[.tmp 12, .tmp 13], argTypes := #[27, 33] } := by kernel_rfl
theorem opP_gd : opP.guard = none := by kernel_rfl
theorem opP_dst : opP.dst = some 14 := by kernel_rfl
theorem hC_eq : headX 16 kC0 = some (.o opsC opC, kC) := by kernel_rfl
theorem opC_op : opC.op = .call { callee := .value (.func 9), args := #[.tmp 12, .tmp 13], argTypes := #[27, 33] } := by kernel_rfl
theorem opC_gd : opC.guard = none := by kernel_rfl
theorem opC_dst : opC.dst = some 14 := by kernel_rfl
/-- behind the lists -/
def tP2 (n m ca cb : Nat) : List (Nat × SV) := [(14, .tup [.c (valS 5 n ca), .c (valS 6 m cb), .c (.lit (.bool true))]), (4, aC (.ptr 4 0)), (5, .a (litB false))]
def tC2 (n m ca cb : Nat) : List (Nat × SV) := [(14, .tup [.c (valS 4 n ca), .c (valS 5 m cb), .c (.lit (.bool true))])]
def mP2 (n m : Nat) : Mem := (mP1 n m ++ [(false, (rp n vA).map SC.lit)]) ++ [(false, (rp m vB).map SC.lit)]
def mC2 (n m : Nat) : Mem := (mP n m ++ [(false, (rp n vA).map SC.lit)]) ++ [(false, (rp m vB).map SC.lit)]
noncomputable def kPe : List Px := restOf (runX C4 callM 32 200 100 kP (tP2 0 0 3 3) [4, 5] (mP2 0 0) 4)
noncomputable def kCe : List Px := restOf (runX C4 callM 33 200 100 kC (tC2 0 0 3 3) [4, 5] (mC2 0 0) 9)
def PR (n m : Nat) : Prop := ∀ ca cb : Nat, runX C4 callM 32 200 100 kP (tP2 n m ca cb) [4, 5] (mP2 n m) 4 = some ([.c (.ptr 4 0), litB false], .ret, kPe, z48.map SC.lit, [])
def CR (n m : Nat) : Prop := ∀ ca cb : Nat, runX C4 callM 33 200 100 kC (tC2 n m ca cb) [4, 5] (mC2 n m) 99 = some ([litB false, litB false], .ret, kCe, [], [])
theorem rfp00 : PR 0 0 := fun ca cb => by kernel_rfl
theorem rfc00 : CR 0 0 := fun ca cb => by kernel_rfl
theorem rfp01 : PR 0 1 := fun ca cb => by kernel_rfl
theorem rfc01 : CR 0 1 := fun ca cb => by kernel_rfl
theorem rfp02 : PR 0 2 := fun ca cb => by kernel_rfl
theorem rfc02 : CR 0 2 := fun ca cb => by kernel_rfl
theorem rfp03 : PR 0 3 := fun ca cb => by kernel_rfl
theorem rfc03 : CR 0 3 := fun ca cb => by kernel_rfl
theorem rfp10 : PR 1 0 := fun ca cb => by kernel_rfl
theorem rfc10 : CR 1 0 := fun ca cb => by kernel_rfl
theorem rfp12 : PR 1 2 := fun ca cb => by kernel_rfl
theorem rfc12 : CR 1 2 := fun ca cb => by kernel_rfl
theorem rfp13 : PR 1 3 := fun ca cb => by kernel_rfl
theorem rfc13 : CR 1 3 := fun ca cb => by kernel_rfl
theorem rfp20 : PR 2 0 := fun ca cb => by kernel_rfl
theorem rfc20 : CR 2 0 := fun ca cb => by kernel_rfl
theorem rfp21 : PR 2 1 := fun ca cb => by kernel_rfl
theorem rfc21 : CR 2 1 := fun ca cb => by kernel_rfl
theorem rfp23 : PR 2 3 := fun ca cb => by kernel_rfl
theorem rfc23 : CR 2 3 := fun ca cb => by kernel_rfl
theorem rfp30 : PR 3 0 := fun ca cb => by kernel_rfl
theorem rfc30 : CR 3 0 := fun ca cb => by kernel_rfl
theorem rfp31 : PR 3 1 := fun ca cb => by kernel_rfl
theorem rfc31 : CR 3 1 := fun ca cb => by kernel_rfl
theorem rfp32 : PR 3 2 := fun ca cb => by kernel_rfl
theorem rfc32 : CR 3 2 := fun ca cb => by kernel_rfl
theorem closed_is {v : SV} (hv : svEq .e .e v v = true) {V : VE FD} {B : Bs} {u : Value} (h : v.is V B u) (V' : VE FD) (B' : Bs) : v.is V' B' u := svEq_is (okF_e V) (okZ_e V) hv h V' B'
theorem p_fn : lk C4.fn 6 = some Tryz.f6 := by kernel_rfl
theorem p_body : Tryz.f6.body = some pBody := by kernel_rfl
theorem p_nt : Tryz.f6.ntmps = 32 := by kernel_rfl
theorem c_fn : lk C4.fn 7 = some Tryz.f7 := by kernel_rfl
theorem c_body : Tryz.f7.body = some cBody := by kernel_rfl
theorem c_nt : Tryz.f7.ntmps = 33 := by kernel_rfl
theorem tok_ptr {V : VE FD} {B : Bs} {N : Nat} {l : List (Nat × SV)} {a : Act} (ha : TOK V B N (mkT l) a) {t r : Nat} (h : lk l t = some (aC (.ptr r 0))) : ∃ b o, B[r]? = some (b, o) ∧ a.tmps[t]? = some (pt b o) := by
  obtain ⟨u, h1, b, o, h2, h3⟩ := ha.look t _ (by rw [mkT_get]; exact h)
  exact ⟨b, o, h2, by rw [h1, h3]; rfl⟩
/-- impl.Pair gives its cell back -/
theorem pair_ret {V : VE FD} {B : Bs} {a : Act} {w : World} {vs : List Value} {f : Bool} (ha : TOK V B 32 (mkT (zipT [4, 5] [.c (.ptr 4 0), litB f])) a) (hc : ∀ b o, B[4]? = some (b, o) → ∃ us, LIs V B (vs.map SC.lit) us ∧ HasC w b o us)
    (hres : resList C4 (mkT [(4, aC (.ptr 0 0)), (5, .a (litB f))]) ⟨[(false, vs.map SC.lit)], 0, 0, [], []⟩ Tryz.f6.results.toList = some (.tup [aggS vs, litB f])) (hcl : svEq .e .e (.tup [aggS vs, litB f]) (.tup [aggS vs, litB f]) = true) {R : Ending → World → Prop}
    (hR : ∀ u, (∀ (V : VE FD) (B : Bs), (SV.tup [aggS vs, litB f]).is V B u) → R (.returned u) w) : bodyPost Tryz.prog Tryz.f6 R .ret a w := by
  obtain ⟨b, o, h1, h2⟩ := tok_ptr ha (t := 4) rfl
  obtain ⟨us, h3, h4⟩ := hc b o h1
  have e := LIs_fun h3 (LIs.lits V B vs)
  rw [e] at h4
  have hb : TOK V [(b, o)] 32 (mkT [(4, aC (.ptr 0 0)), (5, .a (litB f))]) a := by
    obtain ⟨u5, h5, h6⟩ := ha.look 5 (.a (litB f)) (by rw [mkT_get]; rfl)
    have h6 : u5 = .bool f := h6
    exact ((ha.start [(b, o)]).more (v := .a (litB f)) h5 h6).more h2 ⟨b, o, rfl, rfl⟩
  have hr : Rep noK w V [(b, o)] ⟨[(false, vs.map SC.lit)], 0, 0, [], []⟩ w := (rep0 noK w V 0 []).more1 (b := b) (o := o) (c := vs.map SC.lit) (v := vs) (LIs.lits _ _ _) h4 nohd
  exact body_ret C4_ok hres hb hr fun u hu => hR u fun V' B' => closed_is hcl hu V' B'
theorem pair_lists {n m : Nat} (hn : n ≤ 3) (hm : m ≤ 3) {vs : List Value} {f : Bool}
    (hres : resList C4 (mkT [(4, aC (.ptr 0 0)), (5, .a (litB f))]) ⟨[(false, vs.map SC.lit)], 0, 0, [], []⟩ Tryz.f6.results.toList = some (.tup [aggS vs, litB f])) (hcl : svEq .e .e (.tup [aggS vs, litB f]) (.tup [aggS vs, litB f]) = true)
    {call : CallF} (hcall : CallOK Tryz.prog FD call) {ke : List Px} (hrun : ∀ ca cb : Nat, runX C4 call 32 200 100 kP (tP2 n m ca cb) [4, 5] (mP2 n m) 4 = some ([.c (.ptr 4 0), litB f], .ret, ke, vs.map SC.lit, [])) :
    KOK Tryz.prog 6 (asP n m 3 3) (.tup [aggS vs, litB f]) := by
  refine kok_two fun cp cq => ?_
  intro w us hk hp
  have V0 : VE FD := ⟨fun _ => (0 : Fp), fun _ => 0⟩
  obtain ⟨B, hr, hu⟩ := repK (V := V0) (B := []) (mem := []) rfl rfl hk hp (by intro r m cs b o h; simp at h) (rep0 _ w V0 0 [])
  simp only [List.nil_append] at hr hu
  have hr : Rep noK w V0 B ⟨mP n m, 0, 0, [], []⟩ w := hr
  have hu : SVs V0 B [aC (sS 2 n cp), aC (sS 3 m cq)] us := hu
  refine calls_body C4_ok p_fn p_body (by rw [p_nt]; exact Nat.le_of_ble_eq_true rfl) hu fun a0 ha0 => ?_
  rw [p_nt] at ha0
  refine runXm_sound C4_ok mixed callM_ok (pP1 n m cp cq) _ a0 w ha0 hr _ fun X a1 w1 ha1 hr1 => ?_
  refine lists_call hn hm hP_eq opP_op opP_gd opP_dst (by decide) hr1 rfl rfl ha1 rfl rfl fun ga ca gb cb a2 w2 ha2 hr2 => ?_
  have ha3 : TOK V0 (((B ++ X) ++ [(ga, 0)]) ++ [(gb, 0)]) 32 (mkT (tP2 n m ca cb)) a2 := by
    refine ⟨ha2.size, fun t v hl => ha2.look t v ?_, ha2.defers⟩
    rw [mkT_get] at hl ⊢
    simp only [tP2, lk] at hl
    split at hl
    · rename_i e
      have e := Nat.eq_of_beq_eq_true e
      subst e; exact hl
    · split at hl
      · rename_i e
        have e := Nat.eq_of_beq_eq_true e
        subst e; exact hl
      · split at hl
        · rename_i e
          have e := Nat.eq_of_beq_eq_true e
          subst e; exact hl
        · simp at hl
  refine runX_sound C4_ok mixed hcall (hrun ca cb) _ a2 w2 ha3 hr2 _ fun X2 a3 w3 ha4 hk3 hc4 => ?_
  refine goX_ret (P := Tryz.prog) (pair_ret ha4 hc4 hres hcl fun u hu => ?_)
  exact ⟨⟨u, rfl, hu⟩, hk3⟩
theorem check_lists {n m : Nat} (hn : n ≤ 3) (hm : m ≤ 3) (hrun : CR n m) : KOK Tryz.prog 7 (asP n m 3 3) (.tup [litB false, litB false]) := by
  refine kok_two fun cp cq => ?_
  intro w us hk hp
  have V0 : VE FD := ⟨fun _ => (0 : Fp), fun _ => 0⟩
  obtain ⟨B, hr, hu⟩ := repK (V := V0) (B := []) (mem := []) rfl rfl hk hp (by intro r m cs b o h; simp at h) (rep0 _ w V0 0 [])
  simp only [List.nil_append] at hr hu
  have hr : Rep noK w V0 B ⟨mP n m, 0, 0, [], []⟩ w := hr
  have hu : SVs V0 B [aC (sS 2 n cp), aC (sS 3 m cq)] us := hu
  refine calls_body C4_ok c_fn c_body (by rw [c_nt]; exact Nat.le_of_ble_eq_true rfl) hu fun a0 ha0 => ?_
  rw [c_nt] at ha0
  refine runXm_sound C4_ok mixed callM_ok (pC1 n m cp cq) _ a0 w ha0 hr _ fun X a1 w1 ha1 hr1 => ?_
  refine lists_call hn hm hC_eq opC_op opC_gd opC_dst (by decide) hr1 rfl rfl ha1 rfl rfl fun ga ca gb cb a2 w2 ha2 hr2 => ?_
  have ha3 : TOK V0 (((B ++ X) ++ [(ga, 0)]) ++ [(gb, 0)]) 33 (mkT (tC2 n m ca cb)) a2 := by
    refine ⟨ha2.size, fun t v hl => ha2.look t v ?_, ha2.defers⟩
    rw [mkT_get] at hl ⊢
    simp only [tC2, lk] at hl
    split at hl
    · rename_i e
      have e := Nat.eq_of_beq_eq_true e
      subst e; exact hl
    · simp at hl
  refine runX_sound C4_ok mixed callM_ok (hrun ca cb) _ a2 w2 ha3 hr2 _ fun X2 a3 w3 ha4 hk3 _ => ?_
  have hr5 : Rep noK w3 V0 _ ⟨[], 0, 0, [], []⟩ w3 := rep0 noK w3 V0 0 []
  refine goX_ret (P := Tryz.prog) (body_ret C4_ok (N := 33) (v := .tup [litB false, litB false]) (mem := []) (l := [(4, .a (litB false)), (5, .a (litB false))]) (by kernel_rfl) (B := []) ?_ hr5 fun u hu => ?_)
  · obtain ⟨u4, h4, h4'⟩ := ha4.look 4 (.a (litB false)) (by rw [mkT_get]; rfl)
    obtain ⟨u5, h5, h5'⟩ := ha4.look 5 (.a (litB false)) (by rw [mkT_get]; rfl)
    have h4' : u4 = .bool false := h4'
    have h5' : u5 = .bool false := h5'
    exact ((ha4.start []).more (v := .a (litB false)) h5 h5').more (v := .a (litB false)) h4 h4'
  · exact ⟨⟨u, rfl, fun V' B' => closed_is (by kernel_rfl) hu V' B'⟩, hk3⟩
theorem ref_res : resList C4 (mkT [(4, aC (.ptr 0 0)), (5, .a (litB false))]) ⟨[(false, z48.map SC.lit)], 0, 0, [], []⟩ Tryz.f6.results.toList = some (.tup [aggS z48, litB false]) := by kernel_rfl
theorem ref_cl : svEq .e .e (.tup [aggS z48, litB false]) (.tup [aggS z48, litB false]) = true := by kernel_rfl
theorem pair_refused {n m : Nat} (hn : n ≤ 3) (hm : m ≤ 3) (h : PR n m) : KOK Tryz.prog 6 (asP n m 3 3) (.tup [aggS z48, litB false]) := pair_lists hn hm ref_res ref_cl callM_ok h
/-! closed runs in pieces: the rows of a piece turn some known names into others -/
def evalRows : List TOp → TM → Option TM
  | [], E => some E
  | o :: r, E => match o with
    | .ef i n k xs => match fesV E xs with
      | some l => match efV k l with
        | some l' => match Nat.beq l'.length n with
          | true => putFs E i l' fun E => evalRows r E
          | false => none
        | none => none
      | none => none
    | .ebin i k x y => match feV E x, feV E y with
      | some a, some b => putFs E i [fpBin k a b] fun E => evalRows r E
      | _, _ => none
    | .eun i k x => match feV E x with
      | some a => putFs E i [fpUn k a] fun E => evalRows r E
      | none => none
    | .t1 k x d => match feV E x with
      | some a => match qblE (FD.t1 k a) d with
        | true => evalRows r E
        | false => none
      | none => none
    | .t2 k x y d => match feV E x, feV E y with
      | some a, some b => match qblE (FD.t2 k a b) d with
        | true => evalRows r E
        | false => none
      | _, _ => none
    | _ => none
def mkE : List (Nat × Nat) → TM
  | [] => .e
  | p :: r => (mkE r).put p.1 (sz (.ofNat p.2))
def liveOk (E : TM) : List (Nat × Nat) → Bool
  | [] => true
  | p :: r => match getF E p.1 with
    | some x => Nat.beq x.val p.2 && liveOk E r
    | none => false
def chunkOk (rows : List TOp) (l0 l1 : List (Nat × Nat)) : Bool := match evalRows rows (mkE l0) with
  | some E => liveOk E l1
  | none => false
def OkL (V : VE FD) : List (Nat × Nat) → Prop
  | [] => True
  | p :: r => V.el p.1 = mkFp p.2 ∧ OkL V r
theorem okF_put' {V : VE FD} {E : TM} (h : OkF V E) {i n : Nat} (hx : V.el i = mkFp n) : OkF V (E.put i (sz (.ofNat n))) := by
  intro j y hy
  unfold getF at hy
  rw [TM.get_put] at hy
  by_cases hj : j = i
  · rw [if_pos hj] at hy
    have hy : some (mkFp n) = some y := hy
    have hy := Option.some.inj hy
    rw [hj, hx, hy]
  · rw [if_neg hj] at hy
    exact h j y hy
theorem mkE_ok {V : VE FD} : ∀ {l : List (Nat × Nat)}, OkL V l → OkF V (mkE l)
  | [], _ => okF_e V
  | _ :: _, h => okF_put' (mkE_ok h.2) h.1
theorem liveOk_ok {V : VE FD} {E : TM} (hE : OkF V E) : ∀ {l : List (Nat × Nat)}, liveOk E l = true → OkL V l
  | [], _ => trivial
  | p :: r, h => by
    unfold liveOk at h
    split at h
    · rename_i x hx
      simp only [Bool.and_eq_true] at h
      have e := Nat.eq_of_beq_eq_true h.1
      refine ⟨?_, liveOk_ok hE h.2⟩
      rw [hE _ _ hx, ← e, mkFp_val]
    · simp at h
theorem ptL_row {V : VE FD} {K : Mem → SV → Prop} {o : TOp} {r : List TOp} {t : PT} (h : (ptL (o :: r) t).post V K) (hn : ∀ k x d, o ≠ .t1 k x d) (hn2 : ∀ k x y d, o ≠ .t2 k x y d) (hn3 : ∀ p x y d, o ≠ .cmp p x y d) (hn4 : ∀ k xs d, o ≠ .tm k xs d) : o.holds V ∧ (ptL r t).post V K := by
  cases o with
  | t1 k x d => exact (hn _ _ _ rfl).elim
  | t2 k x y d => exact (hn2 _ _ _ _ rfl).elim
  | cmp p x y d => exact (hn3 _ _ _ _ rfl).elim
  | tm k xs d => exact (hn4 _ _ _ rfl).elim
  | _ => exact h
theorem post_rows {V : VE FD} {K : Mem → SV → Prop} {t : PT} {rest : List TOp} : ∀ {rows : List TOp} {E E' : TM}, evalRows rows E = some E' → OkF V E → (ptL (rows ++ rest) t).post V K → OkF V E' ∧ (ptL rest t).post V K
  | [], E, E', h, hE, hp => by simp only [evalRows, Option.some.injEq] at h; subst h; exact ⟨hE, hp⟩
  | o :: r, E, E', h, hE, hp => by
    unfold evalRows at h
    split at h
    · rename_i i n k xs
      obtain ⟨ho, hp⟩ := ptL_row hp (by simp) (by simp) (by simp) (by simp)
      split at h
      · rename_i l hx
        split at h
        · rename_i l' hv
          split at h
          · rename_i hl
            have hl := Nat.eq_of_beq_eq_true hl
            have ho : (List.range n).map (fun j => V.el (i + j)) = efF k _ := ho
            rw [fesV_ok hE hx, efV_ok _ _ _ hv] at ho
            obtain ⟨E2, h2, h3⟩ := putFs_ok hE (fun j hj => range_get? ho (by omega)) h
            exact post_rows h3 h2 hp
          · simp at h
        · simp at h
      · simp at h
    · rename_i i k x y
      obtain ⟨ho, hp⟩ := ptL_row hp (by simp) (by simp) (by simp) (by simp)
      split at h
      · rename_i a b hx hy
        have ho : V.el i = fpBin k _ _ := ho
        rw [feV_ok hE hx, feV_ok hE hy] at ho
        obtain ⟨E2, h2, h3⟩ := putFs_ok hE (fun j hj => by
          have : j = 0 := by simp at hj; omega
          subst this
          show some _ = some (V.el (i + 0))
          rw [Nat.add_zero, ho]) h
        exact post_rows h3 h2 hp
      · simp at h
    · rename_i i k x
      obtain ⟨ho, hp⟩ := ptL_row hp (by simp) (by simp) (by simp) (by simp)
      split at h
      · rename_i a hx
        have ho : V.el i = fpUn k _ := ho
        rw [feV_ok hE hx] at ho
        obtain ⟨E2, h2, h3⟩ := putFs_ok hE (fun j hj => by
          have : j = 0 := by simp at hj; omega
          subst this
          show some _ = some (V.el (i + 0))
          rw [Nat.add_zero, ho]) h
        exact post_rows h3 h2 hp
      · simp at h
    · rename_i k x d
      split at h
      · rename_i a hx
        split at h
        · rename_i hd
          have hd := qblE_eq hd
          refine post_rows h hE ?_
          cases d with
          | true =>
            rcases hp with ⟨_, hp⟩ | ⟨ht, _⟩
            · exact hp
            · have ht : FD.t1 k _ = false := ht
              rw [feV_ok hE hx, hd] at ht; simp at ht
          | false =>
            rcases hp with ⟨ht, _⟩ | ⟨_, hp⟩
            · have ht : FD.t1 k _ = true := ht
              rw [feV_ok hE hx, hd] at ht; simp at ht
            · exact hp
        · simp at h
      · simp at h
    · rename_i k x y d
      split at h
      · rename_i a b hx hy
        split at h
        · rename_i hd
          have hd := qblE_eq hd
          refine post_rows h hE ?_
          cases d with
          | true =>
            rcases hp with ⟨_, hp⟩ | ⟨ht, _⟩
            · exact hp
            · have ht : FD.t2 k _ _ = false := ht
              rw [feV_ok hE hx, feV_ok hE hy, hd] at ht; simp at ht
          | false =>
            rcases hp with ⟨ht, _⟩ | ⟨_, hp⟩
            · have ht : FD.t2 k _ _ = true := ht
              rw [feV_ok hE hx, feV_ok hE hy, hd] at ht; simp at ht
            · exact hp
        · simp at h
      · simp at h
    · simp at h
theorem chunk_ok {V : VE FD} {K : Mem → SV → Prop} {t : PT} {rows rest : List TOp} {l0 l1 : List (Nat × Nat)} (h : chunkOk rows l0 l1 = true) (hl : OkL V l0) (hp : (ptL (rows ++ rest) t).post V K) : OkL V l1 ∧ (ptL rest t).post V K := by
  unfold chunkOk at h
  split at h
  · rename_i E he
    obtain ⟨h1, h2⟩ := post_rows he (mkE_ok hl) hp
    exact ⟨liveOk_ok h1 h, h2⟩
  · simp at h
theorem chunk_end {V : VE FD} {K : Mem → SV → Prop} {m : Mem} {ne ni : Nat} {v res : SV} {l : List (Nat × Nat)} (hl : OkL V l) (hp : (ptL [] (.done m ne ni v)).post V K) (hr : svEq (mkE l) .e v res = true) : K m v ∧ ∀ (B : Bs) (u : Value), v.is V B u → ∀ (V' : VE FD) (B' : Bs), res.is V' B' u :=
  ⟨hp, fun _ _ hu V' B' => svEq_is (mkE_ok hl) (okZ_e V) hr hu V' B'⟩
theorem kc_leafG {P : Program} {call : CallF} (hcall : CallOK P FD call) {f : Nat} (aas : List KA) (res : SV) (t : PT) (hchk : t.chk (runK call f aas) [] []) (hok : t.ok 0 0 [] = true)
    (hin : (memIn 0 0 (memK aas) && ((argK 0 aas).all (svIn 0 0) && (posK 0 aas && aas.all closedK))) = true)
    (hev : ∀ (V : VE FD) (K : Mem → SV → Prop), t.post V K → ∃ m v, K m v ∧ ∀ (B : Bs) (u : Value), v.is V B u → ∀ (V' : VE FD) (B' : Bs), res.is V' B' u) : KOK1 P f aas res := by
  simp only [Bool.and_eq_true] at hin
  obtain ⟨hin, hin', hpos, has⟩ := hin
  intro w us hk hp
  have V0 : VE FD := ⟨fun _ => (0 : Fp), fun _ => 0⟩
  obtain ⟨B, hr, hu⟩ := repK (V := V0) (B := []) (mem := []) hpos has hk hp (by intro r m cs b o h; simp at h) (rep0 _ w V0 0 [])
  simp only [List.nil_append] at hr
  have hu : SVs V0 B (argK 0 aas) us := by simpa using hu
  obtain ⟨V', ha, hp⟩ := t.solve hok V0 trivial
  have hp := t.post_chk (K := fun _ v => Calls P f us.toArray w fun e w' => ∃ u X, e = .returned u ∧ Keeps (fun _ _ => False) w w' ∧ v.is V' (B ++ X) u) hchk (by simp) hp (by
    intro ds mem' ne' ni' tr v hrun hh
    unfold runK at hrun
    obtain ⟨⟨st, v'⟩, h1, h2⟩ := Option.map_eq_some_iff.1 hrun
    simp only [noMem, Prod.mk.injEq, SS.mk.injEq] at h2
    obtain ⟨⟨_, _, _, htr, _⟩, rfl⟩ := h2
    refine (hcall.sound f _ _ _ v' h1 (fun _ _ => False) w V' B w us ((hr.agree ha hin).other rfl) (SVs_in ha hin' hu) (by rw [htr]; exact hh)).mono ?_
    rintro e w' ⟨u, X, h1, h2, h3⟩
    exact ⟨u, X, h1, h2.keeps, h3⟩)
  obtain ⟨m, v, h1, h2⟩ := hev V' _ hp
  refine h1.mono ?_
  rintro e w' ⟨u, X, h4, h5, h6⟩
  exact ⟨⟨u, h4, fun V B => h2 _ u h6 V B⟩, h5⟩
/-- the rows of a piece hold -/
theorem rows_hold {V : VE FD} {K : Mem → SV → Prop} {t : PT} {rest : List TOp} : ∀ {rows : List TOp} {E E' : TM}, evalRows rows E = some E' → OkF V E → (ptL (rows ++ rest) t).post V K → ∀ o ∈ rows, o.holds V
  | [], _, _, _, _, _ => by simp
  | o :: r, E, E', h, hE, hp => by
    have step : ∀ {E2 : TM}, evalRows r E2 = some E' → OkF V E2 → (ptL (r ++ rest) t).post V K → o.holds V → ∀ o' ∈ o :: r, o'.holds V := by
      intro E2 h2 hE2 hp2 ho o' ho'
      rcases List.mem_cons.1 ho' with rfl | ho'
      · exact ho
      · exact rows_hold h2 hE2 hp2 o' ho'
    unfold evalRows at h
    split at h
    · rename_i i n k xs
      obtain ⟨ho, hp⟩ := ptL_row hp (by simp) (by simp) (by simp) (by simp)
      split at h
      · rename_i l hx
        split at h
        · rename_i l' hv
          split at h
          · rename_i hl
            have hl := Nat.eq_of_beq_eq_true hl
            have ho' : (List.range n).map (fun j => V.el (i + j)) = efF k _ := ho
            rw [fesV_ok hE hx, efV_ok _ _ _ hv] at ho'
            obtain ⟨E2, h2, h3⟩ := putFs_ok hE (fun j hj => range_get? ho' (by omega)) h
            exact step h3 h2 hp ho
          · simp at h
        · simp at h
      · simp at h
    · rename_i i k x y
      obtain ⟨ho, hp⟩ := ptL_row hp (by simp) (by simp) (by simp) (by simp)
      split at h
      · rename_i a b hx hy
        have ho' : V.el i = fpBin k _ _ := ho
        rw [feV_ok hE hx, feV_ok hE hy] at ho'
        obtain ⟨E2, h2, h3⟩ := putFs_ok hE (fun j hj => by
          have : j = 0 := by simp at hj; omega
          subst this
          show some _ = some (V.el (i + 0))
          rw [Nat.add_zero, ho']) h
        exact step h3 h2 hp ho
      · simp at h
    · rename_i i k x
      obtain ⟨ho, hp⟩ := ptL_row hp (by simp) (by simp) (by simp) (by simp)
      split at h
      · rename_i a hx
        have ho' : V.el i = fpUn k _ := ho
        rw [feV_ok hE hx] at ho'
        obtain ⟨E2, h2, h3⟩ := putFs_ok hE (fun j hj => by
          have : j = 0 := by simp at hj; omega
          subst this
          show some _ = some (V.el (i + 0))
          rw [Nat.add_zero, ho']) h
        exact step h3 h2 hp ho
      · simp at h
    · rename_i k x d
      split at h
      · rename_i a hx
        split at h
        · rename_i hd
          have hd := qblE_eq hd
          have ho : (TOp.t1 k x d).holds V := by
            show FD.t1 k _ = d
            rw [feV_ok hE hx, hd]
          cases d with
          | true =>
            rcases hp with ⟨_, hp⟩ | ⟨ht, _⟩
            · exact step h hE hp ho
            · have ht : FD.t1 k _ = false := ht
              rw [feV_ok hE hx, hd] at ht; simp at ht
          | false =>
            rcases hp with ⟨ht, _⟩ | ⟨_, hp⟩
            · have ht : FD.t1 k _ = true := ht
              rw [feV_ok hE hx, hd] at ht; simp at ht
            · exact step h hE hp ho
        · simp at h
      · simp at h
    · rename_i k x y d
      split at h
      · rename_i a b hx hy
        split at h
        · rename_i hd
          have hd := qblE_eq hd
          have ho : (TOp.t2 k x y d).holds V := by
            show FD.t2 k _ _ = d
            rw [feV_ok hE hx, feV_ok hE hy, hd]
          cases d with
          | true =>
            rcases hp with ⟨_, hp⟩ | ⟨ht, _⟩
            · exact step h hE hp ho
            · have ht : FD.t2 k _ _ = false := ht
              rw [feV_ok hE hx, feV_ok hE hy, hd] at ht; simp at ht
          | false =>
            rcases hp with ⟨ht, _⟩ | ⟨_, hp⟩
            · have ht : FD.t2 k _ _ = true := ht
              rw [feV_ok hE hx, feV_ok hE hy, hd] at ht; simp at ht
            · exact step h hE hp ho
        · simp at h
      · simp at h
    · simp at h
theorem chunk_ok2 {V : VE FD} {K : Mem → SV → Prop} {t : PT} {rows rest : List TOp} {l0 l1 : List (Nat × Nat)} (h : chunkOk rows l0 l1 = true) (hl : OkL V l0) (hp : (ptL (rows ++ rest) t).post V K) : OkL V l1 ∧ (ptL rest t).post V K ∧ ∀ o ∈ rows, o.holds V := by
  refine ⟨(chunk_ok h hl hp).1, (chunk_ok h hl hp).2, ?_⟩
  unfold chunkOk at h
  split at h
  · rename_i E he
    exact rows_hold he (mkE_ok hl) hp
  · simp at h
end Go.Proofs.YtnmkmbjbaagojaaGreatDoor
