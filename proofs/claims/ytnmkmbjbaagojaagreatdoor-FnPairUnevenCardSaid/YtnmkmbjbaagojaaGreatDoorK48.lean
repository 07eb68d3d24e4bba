/- A part of the proof of laws.FnPairUneven. -/
import Derived.Test.YtnmkmbjbaagojaaGreatDoorK43
namespace Go.Proofs.YtnmkmbjbaagojaaGreatDoor
open Go
set_option maxRecDepth 100000
set_option linter.unusedVariables false
set_option linter.unusedSimpArgs false
/-! the elements aas numbers -/
def vF0 : List Value := W4 4828193252112095944 5565690347674630368 883546029529777285 2308823949135410091 ++ W4 14140305253500449623 15359696965322696205 6145109290331329964 1124735390898042407
def vT0 : List Value := W4 777666004715815617 4805046412765917976 8024619538554286932 2090378243771766864 ++ W4 5825745760477857570 1239413296555816574 10672079847063027262 110113759651311771
def rwT00 : List TOp := [.tm 0 [(.lit 777666004715815617), (.lit 4805046412765917976), (.lit 8024619538554286932), (.lit 2090378243771766864)] true,
 .tm 0 [(.lit 5825745760477857570), (.lit 1239413296555816574), (.lit 10672079847063027262), (.lit 110113759651311771)] true]
def rwT0 : List TOp := rwT00
theorem told2_0 : KOK Tryz.prog nTold2 [.v (aggS vF0)] (.a (aggS vT0)) :=
  kok_plain (fun _ => rfl) (kc_leaf callK_ok [.v (aggS vF0)] (.a (aggS vT0)) (ptL rwT0 (.done [] 0 0 (.a (.agg [.lit (.int .u64 777666004715815617), .lit (.int .u64 4805046412765917976), .lit (.int .u64 8024619538554286932), .lit (.int .u64 2090378243771766864), .lit (.int .u64 5825745760477857570), .lit (.int .u64 1239413296555816574), .lit (.int .u64 10672079847063027262), .lit (.int .u64 110113759651311771)])))) (PT.chk_of (by kernel_rfl)) (by kernel_rfl) (by kernel_rfl) (by kernel_rfl))
def vF1 : List Value := W4 2237274523299771628 2898790195963226109 3660856941073243073 1954364727092236875 ++ W4 10114735160947707350 177336923915987075 5894190013940662810 664805912063963030
def vT1 : List Value := W4 12151858950356412003 6673967866620976224 14096636657440080319 3025933004378019713 ++ W4 1211365442993953104 18222780386037269828 3573293389961219029 2375248345195789799
def rwT10 : List TOp := [.tm 0 [(.lit 12151858950356412003), (.lit 6673967866620976224), (.lit 14096636657440080319), (.lit 3025933004378019713)] true,
 .tm 0 [(.lit 1211365442993953104), (.lit 18222780386037269828), (.lit 3573293389961219029), (.lit 2375248345195789799)] true]
def rwT1 : List TOp := rwT10
theorem told2_1 : KOK Tryz.prog nTold2 [.v (aggS vF1)] (.a (aggS vT1)) :=
  kok_plain (fun _ => rfl) (kc_leaf callK_ok [.v (aggS vF1)] (.a (aggS vT1)) (ptL rwT1 (.done [] 0 0 (.a (.agg [.lit (.int .u64 12151858950356412003), .lit (.int .u64 6673967866620976224), .lit (.int .u64 14096636657440080319), .lit (.int .u64 3025933004378019713), .lit (.int .u64 1211365442993953104), .lit (.int .u64 18222780386037269828), .lit (.int .u64 3573293389961219029), .lit (.int .u64 2375248345195789799)])))) (PT.chk_of (by kernel_rfl)) (by kernel_rfl) (by kernel_rfl) (by kernel_rfl))
def vF2 : List Value := W4 16838233860178775023 3028875386123549454 15532086630393331768 2104180784249414720 ++ W4 13949543762810003608 1098211847375864518 10090836432184426870 3275390838651648715
def vT2 : List Value := W4 17629572691066938767 10331057240116087039 8555196920520226454 202107370793217864 ++ W4 2408337541330459823 10995237672248429729 1787496011651297793 1228128596955125078
def rwT20 : List TOp := [.tm 0 [(.lit 17629572691066938767), (.lit 10331057240116087039), (.lit 8555196920520226454), (.lit 202107370793217864)] true,
 .tm 0 [(.lit 2408337541330459823), (.lit 10995237672248429729), (.lit 1787496011651297793), (.lit 1228128596955125078)] true]
def rwT2 : List TOp := rwT20
theorem told2_2 : KOK Tryz.prog nTold2 [.v (aggS vF2)] (.a (aggS vT2)) :=
  kok_plain (fun _ => rfl) (kc_leaf callK_ok [.v (aggS vF2)] (.a (aggS vT2)) (ptL rwT2 (.done [] 0 0 (.a (.agg [.lit (.int .u64 17629572691066938767), .lit (.int .u64 10331057240116087039), .lit (.int .u64 8555196920520226454), .lit (.int .u64 202107370793217864), .lit (.int .u64 2408337541330459823), .lit (.int .u64 10995237672248429729), .lit (.int .u64 1787496011651297793), .lit (.int .u64 1228128596955125078)])))) (PT.chk_of (by kernel_rfl)) (by kernel_rfl) (by kernel_rfl) (by kernel_rfl))
def vF3 : List Value := W4 18342496850685861191 1088380738840599532 7083905137543260443 3215470749011982442 ++ W4 14726461516610035452 12442626904198363131 13704609233651725963 1395474804160328784
def vT3 : List Value := W4 4403801177098532945 5092837438046419565 3683503901230799574 2816180245666813150 ++ W4 6015163433026108750 13812692034883116667 2068004700916773248 3293754975991570732
def rwT30 : List TOp := [.tm 0 [(.lit 4403801177098532945), (.lit 5092837438046419565), (.lit 3683503901230799574), (.lit 2816180245666813150)] true,
 .tm 0 [(.lit 6015163433026108750), (.lit 13812692034883116667), (.lit 2068004700916773248), (.lit 3293754975991570732)] true]
def rwT3 : List TOp := rwT30
theorem told2_3 : KOK Tryz.prog nTold2 [.v (aggS vF3)] (.a (aggS vT3)) :=
  kok_plain (fun _ => rfl) (kc_leaf callK_ok [.v (aggS vF3)] (.a (aggS vT3)) (ptL rwT3 (.done [] 0 0 (.a (.agg [.lit (.int .u64 4403801177098532945), .lit (.int .u64 5092837438046419565), .lit (.int .u64 3683503901230799574), .lit (.int .u64 2816180245666813150), .lit (.int .u64 6015163433026108750), .lit (.int .u64 13812692034883116667), .lit (.int .u64 2068004700916773248), .lit (.int .u64 3293754975991570732)])))) (PT.chk_of (by kernel_rfl)) (by kernel_rfl) (by kernel_rfl) (by kernel_rfl))
def vF4 : List Value := W4 9112673359448251174 11778977090442121620 7305161446686612155 1469477973008413771 ++ W4 17543796211823359306 1934717547025421173 11518939318468832997 2705463542807868215
def vT4 : List Value := W4 9281663597301640186 635475912973425385 17580559161679718026 2738163877872461654 ++ W4 4447399443385652886 9988157056009886210 81488055518362697 1942695219669057593
def rwT40 : List TOp := [.tm 0 [(.lit 9281663597301640186), (.lit 635475912973425385), (.lit 17580559161679718026), (.lit 2738163877872461654)] true,
 .tm 0 [(.lit 4447399443385652886), (.lit 9988157056009886210), (.lit 81488055518362697), (.lit 1942695219669057593)] true]
def rwT4 : List TOp := rwT40
theorem told2_4 : KOK Tryz.prog nTold2 [.v (aggS vF4)] (.a (aggS vT4)) :=
  kok_plain (fun _ => rfl) (kc_leaf callK_ok [.v (aggS vF4)] (.a (aggS vT4)) (ptL rwT4 (.done [] 0 0 (.a (.agg [.lit (.int .u64 9281663597301640186), .lit (.int .u64 635475912973425385), .lit (.int .u64 17580559161679718026), .lit (.int .u64 2738163877872461654), .lit (.int .u64 4447399443385652886), .lit (.int .u64 9988157056009886210), .lit (.int .u64 81488055518362697), .lit (.int .u64 1942695219669057593)])))) (PT.chk_of (by kernel_rfl)) (by kernel_rfl) (by kernel_rfl) (by kernel_rfl))
def vF5 : List Value := W4 14058546280262955660 18365278479493413805 13899209489630609533 1784098408763132333 ++ W4 6346570562947778100 3879253290436338122 10950991642430050696 3152822463058846779
def vT5 : List Value := W4 17001264738400190341 17360735305179422805 3712036420184387992 2052810608209102176 ++ W4 10074719882597996248 11539410553263706552 3354042835165339164 1969442004702049639
def rwT50 : List TOp := [.tm 0 [(.lit 17001264738400190341), (.lit 17360735305179422805), (.lit 3712036420184387992), (.lit 2052810608209102176)] true,
 .tm 0 [(.lit 10074719882597996248), (.lit 11539410553263706552), (.lit 3354042835165339164), (.lit 1969442004702049639)] true]
def rwT5 : List TOp := rwT50
theorem told2_5 : KOK Tryz.prog nTold2 [.v (aggS vF5)] (.a (aggS vT5)) :=
  kok_plain (fun _ => rfl) (kc_leaf callK_ok [.v (aggS vF5)] (.a (aggS vT5)) (ptL rwT5 (.done [] 0 0 (.a (.agg [.lit (.int .u64 17001264738400190341), .lit (.int .u64 17360735305179422805), .lit (.int .u64 3712036420184387992), .lit (.int .u64 2052810608209102176), .lit (.int .u64 10074719882597996248), .lit (.int .u64 11539410553263706552), .lit (.int .u64 3354042835165339164), .lit (.int .u64 1969442004702049639)])))) (PT.chk_of (by kernel_rfl)) (by kernel_rfl) (by kernel_rfl) (by kernel_rfl))
def prT2 : List (Nat × PrimS) := [(nTold2, .kc [([.v (aggS vF0)], .a (aggS vT0)), ([.v (aggS vF1)], .a (aggS vT1)), ([.v (aggS vF2)], .a (aggS vT2)), ([.v (aggS vF3)], .a (aggS vT3)), ([.v (aggS vF4)], .a (aggS vT4)), ([.v (aggS vF5)], .a (aggS vT5))])]
theorem prT2_ok : PrimsOK Tryz.prog prT2 := ⟨kc_all ⟨told2_0, told2_1, told2_2, told2_3, told2_4, told2_5, trivial⟩, trivial⟩
noncomputable def callT2 : CallF := callS C4 lo0 prT2 200 20
theorem callT2_ok : CallOK Tryz.prog FD callT2 := callS_ok C4_ok mixed lo0_ok (prims_ok (l := prT2) prT2_ok (by kernel_rfl)) 200 20
def vS0 : List Value := vF0 ++ (vF1 ++ vF2)
def vU0 : List Value := vT0 ++ (vT1 ++ vT2)
theorem told6_0 : KOK Tryz.prog nTold6 [.v (aggS vS0)] (.a (aggS vU0)) :=
  kok_plain (fun _ => rfl) (kc_leaf callT2_ok [.v (aggS vS0)] (.a (aggS vU0)) (.done [] 0 0 (.a (aggS vU0))) (PT.chk_of (by kernel_rfl)) (by kernel_rfl) (by kernel_rfl) (by kernel_rfl))
def vS1 : List Value := vF3 ++ (vF4 ++ vF5)
def vU1 : List Value := vT3 ++ (vT4 ++ vT5)
theorem told6_1 : KOK Tryz.prog nTold6 [.v (aggS vS1)] (.a (aggS vU1)) :=
  kok_plain (fun _ => rfl) (kc_leaf callT2_ok [.v (aggS vS1)] (.a (aggS vU1)) (.done [] 0 0 (.a (aggS vU1))) (PT.chk_of (by kernel_rfl)) (by kernel_rfl) (by kernel_rfl) (by kernel_rfl))
def prT6 : List (Nat × PrimS) := [(nTold6, .kc [([.v (aggS vS0)], .a (aggS vU0)), ([.v (aggS vS1)], .a (aggS vU1))])]
theorem prT6_ok : PrimsOK Tryz.prog prT6 := ⟨kc_all ⟨told6_0, told6_1, trivial⟩, trivial⟩
noncomputable def callT6 : CallF := callS C4 lo0 prT6 200 20
theorem callT6_ok : CallOK Tryz.prog FD callT6 := callS_ok C4_ok mixed lo0_ok (prims_ok (l := prT6) prT6_ok (by kernel_rfl)) 200 20
def vT : List Value := vU0 ++ vU1
theorem told12_ok : KOK Tryz.prog nTold12 [.v (aggS vF)] (.a (aggS vT)) :=
  kok_plain (fun _ => rfl) (kc_leaf callT6_ok [.v (aggS vF)] (.a (aggS vT)) (.done [] 0 0 (.a (aggS vT))) (PT.chk_of (by kernel_rfl)) (by kernel_rfl) (by kernel_rfl) (by kernel_rfl))
end Go.Proofs.YtnmkmbjbaagojaaGreatDoor
