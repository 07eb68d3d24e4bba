/- A part of the proof of laws.FnPairUneven. -/
import Derived.Test.YtnmkmbjbaagojaaGreatDoorK07
import Derived.Test.YtnmkmbjbaagojaaGreatDoorK01
import Derived.Test.YtnmkmbjbaagojaaGreatDoorK02
namespace Go.Proofs.YtnmkmbjbaagojaaGreatDoor
open Go
set_option maxRecDepth 100000
set_option linter.unusedVariables false
set_option linter.unusedSimpArgs false
/-! functions on several elements: the curve's formulas (printed by a program out of the reckoner's trees) -/
def fpUn3 (x : Fp) : Fp := if x = 0 then 0 else Fld.inv x
def jacDbl : List Fp → List Fp
  | [v0, v1, v2] =>
    let v3 : Fp := v0 * v0
    let v4 : Fp := v1 * v1
    let v5 : Fp := v4 * v4
    let v6 : Fp := v0 + v4
    let v7 : Fp := v6 * v6
    let v8 : Fp := v7 - v3
    let v9 : Fp := v8 - v5
    let v10 : Fp := v9 + v9
    let v11 : Fp := v3 + v3
    let v12 : Fp := v11 + v3
    let v13 : Fp := v12 * v12
    let v14 : Fp := v10 + v10
    let v15 : Fp := v1 * v2
    let v16 : Fp := v15 + v15
    let v17 : Fp := v13 - v14
    let v18 : Fp := v10 - v17
    let v19 : Fp := v18 * v12
    let v20 : Fp := v5 + v5
    let v21 : Fp := v20 + v20
    let v22 : Fp := v21 + v21
    let v23 : Fp := v19 - v22
    [v17, v23, v16]
  | _ => [0, 0, 0]
def jacAdd : List Fp → List Fp
  | [v0, v1, v2, v3, v4, v5] =>
    if v2 = 0 then
      [v3, v4, v5]
    else
      if v5 = 0 then
        [v0, v1, v2]
      else
        let v6 : Fp := v5 * v5
        let v7 : Fp := v2 * v2
        let v8 : Fp := v3 * v7
        let v9 : Fp := v0 * v6
        let v10 : Fp := v4 * v2
        let v11 : Fp := v10 * v7
        let v12 : Fp := v1 * v5
        let v13 : Fp := v12 * v6
        if v8 = v9 then
          if v11 = v13 then
            let v14 : Fp := v0 * v0
            let v15 : Fp := v1 * v1
            let v16 : Fp := v15 * v15
            let v17 : Fp := v0 + v15
            let v18 : Fp := v17 * v17
            let v19 : Fp := v18 - v14
            let v20 : Fp := v19 - v16
            let v21 : Fp := v20 + v20
            let v22 : Fp := v14 + v14
            let v23 : Fp := v22 + v14
            let v24 : Fp := v23 * v23
            let v25 : Fp := v21 + v21
            let v26 : Fp := v1 * v2
            let v27 : Fp := v26 + v26
            let v28 : Fp := v24 - v25
            let v29 : Fp := v21 - v28
            let v30 : Fp := v29 * v23
            let v31 : Fp := v16 + v16
            let v32 : Fp := v31 + v31
            let v33 : Fp := v32 + v32
            let v34 : Fp := v30 - v33
            [v28, v34, v27]
          else
            let v14 : Fp := v9 - v8
            let v15 : Fp := v14 + v14
            let v16 : Fp := v15 * v15
            let v17 : Fp := v14 * v16
            let v18 : Fp := v13 - v11
            let v19 : Fp := v18 + v18
            let v20 : Fp := v8 * v16
            let v21 : Fp := v19 * v19
            let v22 : Fp := v21 - v17
            let v23 : Fp := v22 - v20
            let v24 : Fp := v23 - v20
            let v25 : Fp := v20 - v24
            let v26 : Fp := v25 * v19
            let v27 : Fp := v11 * v17
            let v28 : Fp := v27 + v27
            let v29 : Fp := v26 - v28
            let v30 : Fp := v2 + v5
            let v31 : Fp := v30 * v30
            let v32 : Fp := v31 - v6
            let v33 : Fp := v32 - v7
            let v34 : Fp := v33 * v14
            [v24, v29, v34]
        else
          let v14 : Fp := v9 - v8
          let v15 : Fp := v14 + v14
          let v16 : Fp := v15 * v15
          let v17 : Fp := v14 * v16
          let v18 : Fp := v13 - v11
          let v19 : Fp := v18 + v18
          let v20 : Fp := v8 * v16
          let v21 : Fp := v19 * v19
          let v22 : Fp := v21 - v17
          let v23 : Fp := v22 - v20
          let v24 : Fp := v23 - v20
          let v25 : Fp := v20 - v24
          let v26 : Fp := v25 * v19
          let v27 : Fp := v11 * v17
          let v28 : Fp := v27 + v27
          let v29 : Fp := v26 - v28
          let v30 : Fp := v2 + v5
          let v31 : Fp := v30 * v30
          let v32 : Fp := v31 - v6
          let v33 : Fp := v32 - v7
          let v34 : Fp := v33 * v14
          [v24, v29, v34]
  | _ => [0, 0, 0]
def jacSub : List Fp → List Fp
  | [v0, v1, v2, v3, v4, v5] =>
    let v6 : Fp := -v4
    if v2 = 0 then
      [v3, v6, v5]
    else
      if v5 = 0 then
        [v0, v1, v2]
      else
        let v7 : Fp := v5 * v5
        let v8 : Fp := v2 * v2
        let v9 : Fp := v3 * v8
        let v10 : Fp := v0 * v7
        let v11 : Fp := v6 * v2
        let v12 : Fp := v11 * v8
        let v13 : Fp := v1 * v5
        let v14 : Fp := v13 * v7
        if v9 = v10 then
          if v12 = v14 then
            let v15 : Fp := v0 * v0
            let v16 : Fp := v1 * v1
            let v17 : Fp := v16 * v16
            let v18 : Fp := v0 + v16
            let v19 : Fp := v18 * v18
            let v20 : Fp := v19 - v15
            let v21 : Fp := v20 - v17
            let v22 : Fp := v21 + v21
            let v23 : Fp := v15 + v15
            let v24 : Fp := v23 + v15
            let v25 : Fp := v24 * v24
            let v26 : Fp := v22 + v22
            let v27 : Fp := v1 * v2
            let v28 : Fp := v27 + v27
            let v29 : Fp := v25 - v26
            let v30 : Fp := v22 - v29
            let v31 : Fp := v30 * v24
            let v32 : Fp := v17 + v17
            let v33 : Fp := v32 + v32
            let v34 : Fp := v33 + v33
            let v35 : Fp := v31 - v34
            [v29, v35, v28]
          else
            let v15 : Fp := v10 - v9
            let v16 : Fp := v15 + v15
            let v17 : Fp := v16 * v16
            let v18 : Fp := v15 * v17
            let v19 : Fp := v14 - v12
            let v20 : Fp := v19 + v19
            let v21 : Fp := v9 * v17
            let v22 : Fp := v20 * v20
            let v23 : Fp := v22 - v18
            let v24 : Fp := v23 - v21
            let v25 : Fp := v24 - v21
            let v26 : Fp := v21 - v25
            let v27 : Fp := v26 * v20
            let v28 : Fp := v12 * v18
            let v29 : Fp := v28 + v28
            let v30 : Fp := v27 - v29
            let v31 : Fp := v2 + v5
            let v32 : Fp := v31 * v31
            let v33 : Fp := v32 - v7
            let v34 : Fp := v33 - v8
            let v35 : Fp := v34 * v15
            [v25, v30, v35]
        else
          let v15 : Fp := v10 - v9
          let v16 : Fp := v15 + v15
          let v17 : Fp := v16 * v16
          let v18 : Fp := v15 * v17
          let v19 : Fp := v14 - v12
          let v20 : Fp := v19 + v19
          let v21 : Fp := v9 * v17
          let v22 : Fp := v20 * v20
          let v23 : Fp := v22 - v18
          let v24 : Fp := v23 - v21
          let v25 : Fp := v24 - v21
          let v26 : Fp := v21 - v25
          let v27 : Fp := v26 * v20
          let v28 : Fp := v12 * v18
          let v29 : Fp := v28 + v28
          let v30 : Fp := v27 - v29
          let v31 : Fp := v2 + v5
          let v32 : Fp := v31 * v31
          let v33 : Fp := v32 - v7
          let v34 : Fp := v33 - v8
          let v35 : Fp := v34 * v15
          [v25, v30, v35]
  | _ => [0, 0, 0]
def jacMix : List Fp → List Fp
  | [v0, v1, v2, v3, v4] =>
    if v3 = 0 then
      if v4 = 0 then
        [v0, v1, v2]
      else
        if v2 = 0 then
          [v3, v4, unmont (val4 15230403791020821917 754611498739239741 7381016538464732716 1011752739694698287)]
        else
          let v5 : Fp := v2 * v2
          let v6 : Fp := v3 * v5
          let v7 : Fp := v4 * v2
          let v8 : Fp := v7 * v5
          if v6 = v0 then
            if v8 = v1 then
              let v9 : Fp := v3 * v3
              let v10 : Fp := v4 * v4
              let v11 : Fp := v10 * v10
              let v12 : Fp := v3 + v10
              let v13 : Fp := v12 * v12
              let v14 : Fp := v13 - v9
              let v15 : Fp := v14 - v11
              let v16 : Fp := v15 + v15
              let v17 : Fp := v9 + v9
              let v18 : Fp := v17 + v9
              let v19 : Fp := v18 * v18
              let v20 : Fp := v19 - v16
              let v21 : Fp := v20 - v16
              let v22 : Fp := v16 - v21
              let v23 : Fp := v22 * v18
              let v24 : Fp := v11 + v11
              let v25 : Fp := v24 + v24
              let v26 : Fp := v25 + v25
              let v27 : Fp := v23 - v26
              let v28 : Fp := v4 + v4
              [v21, v27, v28]
            else
              let v9 : Fp := v6 - v0
              let v10 : Fp := v9 * v9
              let v11 : Fp := v10 + v10
              let v12 : Fp := v11 + v11
              let v13 : Fp := v9 * v12
              let v14 : Fp := v8 - v1
              let v15 : Fp := v14 + v14
              let v16 : Fp := v0 * v12
              let v17 : Fp := v15 * v15
              let v18 : Fp := v17 - v13
              let v19 : Fp := v18 - v16
              let v20 : Fp := v19 - v16
              let v21 : Fp := v13 * v1
              let v22 : Fp := v21 + v21
              let v23 : Fp := v16 - v20
              let v24 : Fp := v23 * v15
              let v25 : Fp := v24 - v22
              let v26 : Fp := v2 + v9
              let v27 : Fp := v26 * v26
              let v28 : Fp := v27 - v5
              let v29 : Fp := v28 - v10
              [v20, v25, v29]
          else
            let v9 : Fp := v6 - v0
            let v10 : Fp := v9 * v9
            let v11 : Fp := v10 + v10
            let v12 : Fp := v11 + v11
            let v13 : Fp := v9 * v12
            let v14 : Fp := v8 - v1
            let v15 : Fp := v14 + v14
            let v16 : Fp := v0 * v12
            let v17 : Fp := v15 * v15
            let v18 : Fp := v17 - v13
            let v19 : Fp := v18 - v16
            let v20 : Fp := v19 - v16
            let v21 : Fp := v13 * v1
            let v22 : Fp := v21 + v21
            let v23 : Fp := v16 - v20
            let v24 : Fp := v23 * v15
            let v25 : Fp := v24 - v22
            let v26 : Fp := v2 + v9
            let v27 : Fp := v26 * v26
            let v28 : Fp := v27 - v5
            let v29 : Fp := v28 - v10
            [v20, v25, v29]
    else
      if v2 = 0 then
        [v3, v4, unmont (val4 15230403791020821917 754611498739239741 7381016538464732716 1011752739694698287)]
      else
        let v5 : Fp := v2 * v2
        let v6 : Fp := v3 * v5
        let v7 : Fp := v4 * v2
        let v8 : Fp := v7 * v5
        if v6 = v0 then
          if v8 = v1 then
            let v9 : Fp := v3 * v3
            let v10 : Fp := v4 * v4
            let v11 : Fp := v10 * v10
            let v12 : Fp := v3 + v10
            let v13 : Fp := v12 * v12
            let v14 : Fp := v13 - v9
            let v15 : Fp := v14 - v11
            let v16 : Fp := v15 + v15
            let v17 : Fp := v9 + v9
            let v18 : Fp := v17 + v9
            let v19 : Fp := v18 * v18
            let v20 : Fp := v19 - v16
            let v21 : Fp := v20 - v16
            let v22 : Fp := v16 - v21
            let v23 : Fp := v22 * v18
            let v24 : Fp := v11 + v11
            let v25 : Fp := v24 + v24
            let v26 : Fp := v25 + v25
            let v27 : Fp := v23 - v26
            let v28 : Fp := v4 + v4
            [v21, v27, v28]
          else
            let v9 : Fp := v6 - v0
            let v10 : Fp := v9 * v9
            let v11 : Fp := v10 + v10
            let v12 : Fp := v11 + v11
            let v13 : Fp := v9 * v12
            let v14 : Fp := v8 - v1
            let v15 : Fp := v14 + v14
            let v16 : Fp := v0 * v12
            let v17 : Fp := v15 * v15
            let v18 : Fp := v17 - v13
            let v19 : Fp := v18 - v16
            let v20 : Fp := v19 - v16
            let v21 : Fp := v13 * v1
            let v22 : Fp := v21 + v21
            let v23 : Fp := v16 - v20
            let v24 : Fp := v23 * v15
            let v25 : Fp := v24 - v22
            let v26 : Fp := v2 + v9
            let v27 : Fp := v26 * v26
            let v28 : Fp := v27 - v5
            let v29 : Fp := v28 - v10
            [v20, v25, v29]
        else
          let v9 : Fp := v6 - v0
          let v10 : Fp := v9 * v9
          let v11 : Fp := v10 + v10
          let v12 : Fp := v11 + v11
          let v13 : Fp := v9 * v12
          let v14 : Fp := v8 - v1
          let v15 : Fp := v14 + v14
          let v16 : Fp := v0 * v12
          let v17 : Fp := v15 * v15
          let v18 : Fp := v17 - v13
          let v19 : Fp := v18 - v16
          let v20 : Fp := v19 - v16
          let v21 : Fp := v13 * v1
          let v22 : Fp := v21 + v21
          let v23 : Fp := v16 - v20
          let v24 : Fp := v23 * v15
          let v25 : Fp := v24 - v22
          let v26 : Fp := v2 + v9
          let v27 : Fp := v26 * v26
          let v28 : Fp := v27 - v5
          let v29 : Fp := v28 - v10
          [v20, v25, v29]
  | _ => [0, 0, 0]
def jacNeg : List Fp → List Fp
  | [v0, v1, v2] =>
    let v3 : Fp := -v1
    [v0, v3, v2]
  | _ => [0, 0, 0]
def jacOf : List Fp → List Fp
  | [v0, v1] =>
    if v0 = 0 then
      if v1 = 0 then
        [unmont (val4 15230403791020821917 754611498739239741 7381016538464732716 1011752739694698287), unmont (val4 15230403791020821917 754611498739239741 7381016538464732716 1011752739694698287), unmont (val4 0 0 0 0)]
      else
        [v0, v1, unmont (val4 15230403791020821917 754611498739239741 7381016538464732716 1011752739694698287)]
    else
      [v0, v1, unmont (val4 15230403791020821917 754611498739239741 7381016538464732716 1011752739694698287)]
  | _ => [0, 0, 0]
def affOf : List Fp → List Fp
  | [v0, v1, v2] =>
    if v2 = 0 then
      [unmont (val4 0 0 0 0), unmont (val4 0 0 0 0)]
    else
      let v3 : Fp := fpUn3 v2
      let v4 : Fp := v3 * v3
      let v5 : Fp := v0 * v4
      let v6 : Fp := v1 * v4
      let v7 : Fp := v6 * v3
      [v5, v7]
  | _ => [0, 0]
def affNeg : List Fp → List Fp
  | [v0, v1] =>
    let v2 : Fp := -v1
    [v0, v2]
  | _ => [0, 0]
def efN0 : Nat → Nat
  | 0 => 3
  | 1 => 3
  | 2 => 3
  | 3 => 3
  | 4 => 3
  | 5 => 3
  | 6 => 2
  | 7 => 2
  | _ => 0
def efF0 : Nat → List Fp → List Fp
  | 0, xs => jacDbl xs
  | 1, xs => jacAdd xs
  | 2, xs => jacSub xs
  | 3, xs => jacMix xs
  | 4, xs => jacNeg xs
  | 5, xs => jacOf xs
  | 6, xs => affOf xs
  | 7, xs => affNeg xs
  | _, _ => []
theorem jacDbl_length (xs : List Fp) : (jacDbl xs).length = 3 := by
  unfold jacDbl
  split
  · try dsimp only
    repeat' split
    all_goals rfl
  · rfl
theorem jacAdd_length (xs : List Fp) : (jacAdd xs).length = 3 := by
  unfold jacAdd
  split
  · try dsimp only
    repeat' split
    all_goals rfl
  · rfl
theorem jacSub_length (xs : List Fp) : (jacSub xs).length = 3 := by
  unfold jacSub
  split
  · try dsimp only
    repeat' split
    all_goals rfl
  · rfl
theorem jacMix_length (xs : List Fp) : (jacMix xs).length = 3 := by
  unfold jacMix
  split
  · try dsimp only
    repeat' split
    all_goals rfl
  · rfl
theorem jacNeg_length (xs : List Fp) : (jacNeg xs).length = 3 := by
  unfold jacNeg
  split
  · try dsimp only
    repeat' split
    all_goals rfl
  · rfl
theorem jacOf_length (xs : List Fp) : (jacOf xs).length = 3 := by
  unfold jacOf
  split
  · try dsimp only
    repeat' split
    all_goals rfl
  · rfl
theorem affOf_length (xs : List Fp) : (affOf xs).length = 2 := by
  unfold affOf
  split
  · try dsimp only
    repeat' split
    all_goals rfl
  · rfl
theorem affNeg_length (xs : List Fp) : (affNeg xs).length = 2 := by
  unfold affNeg
  split
  · try dsimp only
    repeat' split
    all_goals rfl
  · rfl
theorem efF0_length : ∀ (k : Nat) (xs : List Fp), (efF0 k xs).length = efN0 k
  | 0, xs => jacDbl_length xs
  | 1, xs => jacAdd_length xs
  | 2, xs => jacSub_length xs
  | 3, xs => jacMix_length xs
  | 4, xs => jacNeg_length xs
  | 5, xs => jacOf_length xs
  | 6, xs => affOf_length xs
  | 7, xs => affNeg_length xs
  | _ + 8, _ => rfl
/-- a function on elements without a test: its rows in their order, what it gives -/
structure SLP where
  rows : List TOp
  outs : List FE
/-- names in pairs -/
def v2 : List Nat → List FE
  | [] => []
  | i :: r => .var i :: .var (i + 1) :: v2 r
/-! printed by a program out of the reckoner's runs: the functions on several elements, row by row -/
def tb100 : SLP := ⟨[.ebin 6 1 (.var 2) (.var 3),
  .ebin 7 1 (.var 4) (.var 5),
  .ebin 8 0 (.var 6) (.var 7),
  .ebin 9 0 (.var 2) (.var 4),
  .ebin 10 0 (.var 3) (.var 5),
  .ebin 11 2 (.var 8) (.var 9),
  .ebin 12 2 (.var 11) (.var 10),
  .ebin 13 2 (.var 9) (.var 10)],
  [(.var 13), (.var 12)]⟩
def tb101 : SLP := ⟨[.ebin 4 1 (.var 2) (.var 3),
  .ebin 5 2 (.var 2) (.var 3),
  .ebin 6 0 (.var 4) (.var 5),
  .ebin 7 0 (.var 2) (.var 3),
  .eun 8 1 (.var 7)],
  [(.var 6), (.var 8)]⟩
def tb102 : SLP := ⟨[.ebin 6 1 (.var 2) (.var 4),
  .ebin 7 1 (.var 3) (.var 5)],
  (v2 [6])⟩
def tb103 : SLP := ⟨[.ebin 6 2 (.var 2) (.var 4),
  .ebin 7 2 (.var 3) (.var 5)],
  (v2 [6])⟩
def tb104 : SLP := ⟨[.eun 4 1 (.var 2),
  .eun 5 1 (.var 3)],
  (v2 [4])⟩
def tb105 : SLP := ⟨[.eun 4 2 (.var 2),
  .eun 5 2 (.var 3)],
  (v2 [4])⟩
def tb106 : SLP := ⟨[.eun 4 2 (.var 3)],
  [(.var 2), (.var 4)]⟩
def tb107 : SLP := ⟨[.eun 4 1 (.var 2),
  .eun 5 1 (.var 4),
  .eun 6 1 (.var 5),
  .ebin 7 1 (.var 6) (.var 2),
  .ebin 8 2 (.var 7) (.var 3),
  .eun 9 1 (.var 3),
  .eun 10 1 (.var 9),
  .eun 11 1 (.var 10),
  .ebin 12 1 (.var 11) (.var 3),
  .ebin 13 1 (.var 12) (.var 2)],
  [(.var 8), (.var 13)]⟩
def tb108 : SLP := ⟨[.ebin 5 0 (.var 2) (.var 4),
  .ebin 6 0 (.var 3) (.var 4)],
  (v2 [5])⟩
def tb109 : SLP := ⟨[.ef 2 1 8 [(.var 0)],
  .ef 3 1 8 [(.var 1)]],
  (v2 [2])⟩
def tb110 : SLP := ⟨[.ebin 4 1 (.var 2) (.var 3),
  .ebin 5 1 (.lit 10477841894441615122 7327163185667482322 3635199979766503006 3215324977242306624) (.lit 7515750141297360845 14746352163864140223 11319968037783994424 30185921062296004),
  .ebin 6 0 (.var 4) (.var 5),
  .ebin 7 0 (.var 2) (.lit 10477841894441615122 7327163185667482322 3635199979766503006 3215324977242306624),
  .ebin 8 0 (.var 3) (.lit 7515750141297360845 14746352163864140223 11319968037783994424 30185921062296004),
  .ebin 9 2 (.var 6) (.var 7),
  .ebin 10 2 (.var 9) (.var 8),
  .ebin 11 2 (.var 7) (.var 8),
  .eun 12 1 (.var 11),
  .eun 13 1 (.var 10),
  .ebin 14 1 (.var 11) (.var 12),
  .ebin 15 1 (.var 10) (.var 13)],
  (v2 [14])⟩
def tb111 : SLP := ⟨[.eun 4 0 (.var 2),
  .eun 5 0 (.var 3),
  .ebin 6 1 (.var 4) (.var 5),
  .eun 7 3 (.var 6),
  .ebin 8 0 (.var 2) (.var 7),
  .ebin 9 0 (.var 3) (.var 7),
  .eun 10 2 (.var 9)],
  [(.var 8), (.var 10)]⟩
def tb121 : SLP := ⟨[.ebin 4 1 (.var 2) (.var 3),
  .ebin 5 1 (.lit 12653890742059813127 14585784200204367754 1278438861261381767 212598772761311868) (.lit 11683091849979440498 14992204589386555739 15866167890766973222 1200023580730561873),
  .ebin 6 0 (.var 4) (.var 5),
  .ebin 7 0 (.var 2) (.lit 12653890742059813127 14585784200204367754 1278438861261381767 212598772761311868),
  .ebin 8 0 (.var 3) (.lit 11683091849979440498 14992204589386555739 15866167890766973222 1200023580730561873),
  .ebin 9 2 (.var 6) (.var 7),
  .ebin 10 2 (.var 9) (.var 8),
  .ebin 11 2 (.var 7) (.var 8)],
  [(.var 11), (.var 10)]⟩
def tb122 : SLP := ⟨[.ebin 4 1 (.var 2) (.var 3),
  .ebin 5 1 (.lit 13075984984163199792 3782902503040509012 8791150885551868305 1825854335138010348) (.lit 7963664994991228759 12257807996192067905 13179524609921305146 2767831111890561987),
  .ebin 6 0 (.var 4) (.var 5),
  .ebin 7 0 (.var 2) (.lit 13075984984163199792 3782902503040509012 8791150885551868305 1825854335138010348),
  .ebin 8 0 (.var 3) (.lit 7963664994991228759 12257807996192067905 13179524609921305146 2767831111890561987),
  .ebin 9 2 (.var 6) (.var 7),
  .ebin 10 2 (.var 9) (.var 8),
  .ebin 11 2 (.var 7) (.var 8)],
  [(.var 11), (.var 10)]⟩
def tb123 : SLP := ⟨[.ebin 4 1 (.var 2) (.var 3),
  .ebin 5 1 (.lit 16482010305593259561 13488546290961988299 3578621962720924518 2681173117283399901) (.lit 11661927080404088775 553939530661941723 7860678177968807019 3208568454732775116),
  .ebin 6 0 (.var 4) (.var 5),
  .ebin 7 0 (.var 2) (.lit 16482010305593259561 13488546290961988299 3578621962720924518 2681173117283399901),
  .ebin 8 0 (.var 3) (.lit 11661927080404088775 553939530661941723 7860678177968807019 3208568454732775116),
  .ebin 9 2 (.var 6) (.var 7),
  .ebin 10 2 (.var 9) (.var 8),
  .ebin 11 2 (.var 7) (.var 8)],
  [(.var 11), (.var 10)]⟩
def tb124 : SLP := ⟨[.ebin 4 1 (.var 2) (.var 3),
  .ebin 5 1 (.lit 8314163329781907090 11942187022798819835 11282677263046157209 1576150870752482284) (.lit 6763840483288992073 7118829427391486816 4016233444936635065 2630958277570195709),
  .ebin 6 0 (.var 4) (.var 5),
  .ebin 7 0 (.var 2) (.lit 8314163329781907090 11942187022798819835 11282677263046157209 1576150870752482284),
  .ebin 8 0 (.var 3) (.lit 6763840483288992073 7118829427391486816 4016233444936635065 2630958277570195709),
  .ebin 9 2 (.var 6) (.var 7),
  .ebin 10 2 (.var 9) (.var 8),
  .ebin 11 2 (.var 7) (.var 8)],
  [(.var 11), (.var 10)]⟩
def tb125 : SLP := ⟨[.ebin 4 1 (.var 2) (.var 3),
  .ebin 5 1 (.lit 14515217250696892391 16303087968080972555 3656613296917993960 1345095164996126785) (.lit 957117326806663081 367382125163301975 15253872307375509749 3396254757538665050),
  .ebin 6 0 (.var 4) (.var 5),
  .ebin 7 0 (.var 2) (.lit 14515217250696892391 16303087968080972555 3656613296917993960 1345095164996126785),
  .ebin 8 0 (.var 3) (.lit 957117326806663081 367382125163301975 15253872307375509749 3396254757538665050),
  .ebin 9 2 (.var 6) (.var 7),
  .ebin 10 2 (.var 9) (.var 8),
  .ebin 11 2 (.var 7) (.var 8)],
  [(.var 11), (.var 10)]⟩
def tb131 : SLP := ⟨[.ebin 4 0 (.var 2) (.lit 14595462726357228530 17349508522658994025 1017833795229664280 299787779797702374),
  .ebin 5 0 (.var 3) (.lit 14595462726357228530 17349508522658994025 1017833795229664280 299787779797702374)],
  (v2 [4])⟩
def tb132 : SLP := ⟨[.ebin 4 0 (.var 2) (.lit 3697675806616062876 9065277094688085689 6918009208039626314 2775033306905974752),
  .ebin 5 0 (.var 3) (.lit 3697675806616062876 9065277094688085689 6918009208039626314 2775033306905974752)],
  (v2 [4])⟩
def tb133 : SLP := ⟨[.ebin 4 0 (.var 2) (.lit 7548957153968385962 10162512645738643279 5900175412809962033 2475245527108272378),
  .ebin 5 0 (.var 3) (.lit 7548957153968385962 10162512645738643279 5900175412809962033 2475245527108272378)],
  (v2 [4])⟩
def tb134 : SLP := ⟨[.ebin 4 0 (.var 2) (.lit 8183898218631979349 12014359695528440611 12263358156045030468 3187210487005268291),
  .ebin 5 0 (.var 3) (.lit 8183898218631979349 12014359695528440611 12263358156045030468 3187210487005268291)],
  (v2 [4])⟩
def tb135 : SLP := ⟨[.ebin 4 0 (.var 2) (.lit 634941064663593387 1851847049789797332 6363182743235068435 711964959896995913),
  .ebin 5 0 (.var 3) (.lit 634941064663593387 1851847049789797332 6363182743235068435 711964959896995913)],
  (v2 [4])⟩
def tb141 : SLP := ⟨[.ebin 4 1 (.var 2) (.var 3),
  .ebin 5 1 (.lit 3914496794763385213 790120733010914719 7322192392869644725 581366264293887267) (.lit 12817045492518885689 4440270538777280383 11178533038884588256 2767537931541304486),
  .ebin 6 0 (.var 4) (.var 5),
  .ebin 7 0 (.var 2) (.lit 3914496794763385213 790120733010914719 7322192392869644725 581366264293887267),
  .ebin 8 0 (.var 3) (.lit 12817045492518885689 4440270538777280383 11178533038884588256 2767537931541304486),
  .ebin 9 2 (.var 6) (.var 7),
  .ebin 10 2 (.var 9) (.var 8),
  .ebin 11 2 (.var 7) (.var 8)],
  [(.var 11), (.var 10)]⟩
def tb142 : SLP := ⟨[.ebin 4 1 (.var 2) (.var 3),
  .ebin 5 1 (.lit 14532872967180610477 12903226530429559474 1868623743233345524 2316889217940299650) (.lit 12447993766991532972 4121872836076202828 7630813605053367399 740282956577754197),
  .ebin 6 0 (.var 4) (.var 5),
  .ebin 7 0 (.var 2) (.lit 14532872967180610477 12903226530429559474 1868623743233345524 2316889217940299650),
  .ebin 8 0 (.var 3) (.lit 12447993766991532972 4121872836076202828 7630813605053367399 740282956577754197),
  .ebin 9 2 (.var 6) (.var 7),
  .ebin 10 2 (.var 9) (.var 8),
  .ebin 11 2 (.var 7) (.var 8)],
  [(.var 11), (.var 10)]⟩
def tb143 : SLP := ⟨[.ebin 4 1 (.var 2) (.var 3),
  .ebin 5 1 (.lit 6297350639395948318 15875321927225446337 9702569988553770230 805825149519570764) (.lit 11117433864585119104 10363184613815941297 5420513773305887730 278429812070195549),
  .ebin 6 0 (.var 4) (.var 5),
  .ebin 7 0 (.var 2) (.lit 6297350639395948318 15875321927225446337 9702569988553770230 805825149519570764),
  .ebin 8 0 (.var 3) (.lit 11117433864585119104 10363184613815941297 5420513773305887730 278429812070195549),
  .ebin 9 2 (.var 6) (.var 7),
  .ebin 10 2 (.var 9) (.var 8),
  .ebin 11 2 (.var 7) (.var 8)],
  [(.var 11), (.var 10)]⟩
def tb144 : SLP := ⟨[.ebin 4 1 (.var 2) (.var 3),
  .ebin 5 1 (.lit 4938922280314430175 13823286637238282975 15589480384090068090 481952561930628184) (.lit 3105754162722846417 11647802298615474591 13057042392041828081 1660844386505564338),
  .ebin 6 0 (.var 4) (.var 5),
  .ebin 7 0 (.var 2) (.lit 4938922280314430175 13823286637238282975 15589480384090068090 481952561930628184),
  .ebin 8 0 (.var 3) (.lit 3105754162722846417 11647802298615474591 13057042392041828081 1660844386505564338),
  .ebin 9 2 (.var 6) (.var 7),
  .ebin 10 2 (.var 9) (.var 8),
  .ebin 11 2 (.var 7) (.var 8)],
  [(.var 11), (.var 10)]⟩
def tb145 : SLP := ⟨[.ebin 4 1 (.var 2) (.var 3),
  .ebin 5 1 (.lit 16193900971494954399 13995139551301264911 9239559758168096094 1571199014989505406) (.lit 3254114329011132839 11171599147282597747 10965492220518093659 2657556514797346915),
  .ebin 6 0 (.var 4) (.var 5),
  .ebin 7 0 (.var 2) (.lit 16193900971494954399 13995139551301264911 9239559758168096094 1571199014989505406),
  .ebin 8 0 (.var 3) (.lit 3254114329011132839 11171599147282597747 10965492220518093659 2657556514797346915),
  .ebin 9 2 (.var 6) (.var 7),
  .ebin 10 2 (.var 9) (.var 8),
  .ebin 11 2 (.var 7) (.var 8)],
  [(.var 11), (.var 10)]⟩
def tb200 : SLP := ⟨[.ef 36 2 102 [(.lit 0 0 0 0), (.lit 0 0 0 0), (.var 12), (.var 13), (.var 18), (.var 19)],
  .ef 38 2 102 [(.lit 0 0 0 0), (.lit 0 0 0 0), (.var 14), (.var 15), (.var 20), (.var 21)],
  .ef 40 2 102 [(.lit 0 0 0 0), (.lit 0 0 0 0), (.var 16), (.var 17), (.var 22), (.var 23)],
  .ef 42 2 102 [(.lit 0 0 0 0), (.lit 0 0 0 0), (.var 24), (.var 25), (.var 30), (.var 31)],
  .ef 44 2 102 [(.lit 0 0 0 0), (.lit 0 0 0 0), (.var 26), (.var 27), (.var 32), (.var 33)],
  .ef 46 2 102 [(.lit 0 0 0 0), (.lit 0 0 0 0), (.var 28), (.var 29), (.var 34), (.var 35)],
  .ef 48 2 100 [(.lit 0 0 0 0), (.lit 0 0 0 0), (.var 36), (.var 37), (.var 42), (.var 43)],
  .ef 50 2 100 [(.lit 0 0 0 0), (.lit 0 0 0 0), (.var 38), (.var 39), (.var 44), (.var 45)],
  .ef 52 2 100 [(.lit 0 0 0 0), (.lit 0 0 0 0), (.var 40), (.var 41), (.var 46), (.var 47)],
  .ef 54 2 102 [(.lit 0 0 0 0), (.lit 0 0 0 0), (.var 38), (.var 39), (.var 40), (.var 41)],
  .ef 56 2 102 [(.lit 0 0 0 0), (.lit 0 0 0 0), (.var 44), (.var 45), (.var 46), (.var 47)],
  .ef 58 2 100 (v2 [54, 54, 56]),
  .ef 60 2 103 (v2 [58, 58, 50]),
  .ef 62 2 103 (v2 [60, 60, 52]),
  .ef 64 2 107 (v2 [62, 62]),
  .ef 66 2 102 (v2 [64, 64, 48]),
  .ef 68 2 102 [(.lit 0 0 0 0), (.lit 0 0 0 0), (.var 36), (.var 37), (.var 38), (.var 39)],
  .ef 70 2 102 (v2 [56, 42, 44]),
  .ef 72 2 100 (v2 [68, 68, 70]),
  .ef 74 2 103 (v2 [72, 72, 48]),
  .ef 76 2 103 (v2 [74, 74, 50]),
  .ef 78 2 107 (v2 [70, 52]),
  .ef 80 2 102 (v2 [76, 76, 78]),
  .ef 82 2 102 (v2 [78, 36, 40]),
  .ef 84 2 102 [(.lit 0 0 0 0), (.lit 0 0 0 0), (.var 42), (.var 43), (.var 46), (.var 47)],
  .ef 86 2 100 (v2 [84, 84, 82]),
  .ef 88 2 103 (v2 [86, 86, 48]),
  .ef 90 2 103 (v2 [88, 88, 52]),
  .ef 92 2 102 (v2 [90, 90, 50]),
  .ef 94 2 100 [(.lit 0 0 0 0), (.lit 0 0 0 0), (.var 12), (.var 13), (.var 24), (.var 25)],
  .ef 96 2 100 [(.lit 0 0 0 0), (.lit 0 0 0 0), (.var 14), (.var 15), (.var 26), (.var 27)],
  .ef 98 2 100 [(.lit 0 0 0 0), (.lit 0 0 0 0), (.var 16), (.var 17), (.var 28), (.var 29)],
  .ef 100 2 102 [(.lit 0 0 0 0), (.lit 0 0 0 0), (.var 14), (.var 15), (.var 16), (.var 17)],
  .ef 102 2 102 [(.lit 0 0 0 0), (.lit 0 0 0 0), (.var 26), (.var 27), (.var 28), (.var 29)],
  .ef 104 2 100 (v2 [100, 100, 102]),
  .ef 106 2 103 (v2 [104, 104, 96]),
  .ef 108 2 103 (v2 [106, 106, 98]),
  .ef 110 2 107 (v2 [108, 108]),
  .ef 112 2 102 (v2 [110, 110, 94]),
  .ef 114 2 102 [(.lit 0 0 0 0), (.lit 0 0 0 0), (.var 12), (.var 13), (.var 14), (.var 15)],
  .ef 116 2 102 (v2 [102, 24, 26]),
  .ef 118 2 100 (v2 [114, 114, 116]),
  .ef 120 2 103 (v2 [118, 118, 94]),
  .ef 122 2 103 (v2 [120, 120, 96]),
  .ef 124 2 107 (v2 [116, 98]),
  .ef 126 2 102 (v2 [122, 122, 124]),
  .ef 128 2 102 (v2 [124, 12, 16]),
  .ef 130 2 102 [(.lit 0 0 0 0), (.lit 0 0 0 0), (.var 24), (.var 25), (.var 28), (.var 29)],
  .ef 132 2 100 (v2 [130, 130, 128]),
  .ef 134 2 103 (v2 [132, 132, 94]),
  .ef 136 2 103 (v2 [134, 134, 98]),
  .ef 138 2 102 (v2 [136, 136, 96]),
  .ef 140 2 100 [(.lit 0 0 0 0), (.lit 0 0 0 0), (.var 18), (.var 19), (.var 30), (.var 31)],
  .ef 142 2 100 [(.lit 0 0 0 0), (.lit 0 0 0 0), (.var 20), (.var 21), (.var 32), (.var 33)],
  .ef 144 2 100 [(.lit 0 0 0 0), (.lit 0 0 0 0), (.var 22), (.var 23), (.var 34), (.var 35)],
  .ef 146 2 102 [(.lit 0 0 0 0), (.lit 0 0 0 0), (.var 20), (.var 21), (.var 22), (.var 23)],
  .ef 148 2 102 [(.lit 0 0 0 0), (.lit 0 0 0 0), (.var 32), (.var 33), (.var 34), (.var 35)],
  .ef 150 2 100 (v2 [146, 146, 148]),
  .ef 152 2 103 (v2 [150, 150, 142]),
  .ef 154 2 103 (v2 [152, 152, 144]),
  .ef 156 2 107 (v2 [154, 154]),
  .ef 158 2 102 (v2 [156, 156, 140]),
  .ef 160 2 102 [(.lit 0 0 0 0), (.lit 0 0 0 0), (.var 18), (.var 19), (.var 20), (.var 21)],
  .ef 162 2 102 (v2 [148, 30, 32]),
  .ef 164 2 100 (v2 [160, 160, 162]),
  .ef 166 2 103 (v2 [164, 164, 140]),
  .ef 168 2 103 (v2 [166, 166, 142]),
  .ef 170 2 107 (v2 [162, 144]),
  .ef 172 2 102 (v2 [168, 168, 170]),
  .ef 174 2 102 (v2 [170, 18, 22]),
  .ef 176 2 102 [(.lit 0 0 0 0), (.lit 0 0 0 0), (.var 30), (.var 31), (.var 34), (.var 35)],
  .ef 178 2 100 (v2 [176, 176, 174]),
  .ef 180 2 103 (v2 [178, 178, 140]),
  .ef 182 2 103 (v2 [180, 180, 144]),
  .ef 184 2 102 (v2 [182, 182, 142]),
  .ef 186 2 103 (v2 [6, 66, 112]),
  .ef 188 2 103 (v2 [8, 80, 126]),
  .ef 190 2 103 (v2 [10, 92, 138]),
  .ef 192 2 103 (v2 [186, 186, 158]),
  .ef 194 2 103 (v2 [188, 188, 172]),
  .ef 196 2 103 (v2 [190, 190, 184]),
  .ef 198 2 107 (v2 [184, 184]),
  .ef 200 2 102 (v2 [198, 198, 112]),
  .ef 202 2 102 (v2 [158, 158, 126]),
  .ef 204 2 102 (v2 [172, 172, 138])],
  (v2 [200, 202, 204, 192, 194, 196])⟩
def tb201 : SLP := ⟨[.ef 24 2 103 [(.lit 0 0 0 0), (.lit 0 0 0 0), (.var 12), (.var 13), (.var 18), (.var 19)],
  .ef 26 2 103 [(.lit 0 0 0 0), (.lit 0 0 0 0), (.var 14), (.var 15), (.var 20), (.var 21)],
  .ef 28 2 103 [(.lit 0 0 0 0), (.lit 0 0 0 0), (.var 16), (.var 17), (.var 22), (.var 23)],
  .ef 30 2 107 (v2 [22, 22]),
  .ef 32 2 105 (v2 [30, 30]),
  .ef 34 2 105 (v2 [18, 18]),
  .ef 36 2 105 (v2 [20, 20]),
  .ef 38 2 102 (v2 [32, 12, 32]),
  .ef 40 2 102 (v2 [34, 14, 34]),
  .ef 42 2 102 (v2 [36, 16, 36]),
  .ef 44 2 100 [(.lit 0 0 0 0), (.lit 0 0 0 0), (.var 12), (.var 13), (.var 18), (.var 19)],
  .ef 46 2 100 [(.lit 0 0 0 0), (.lit 0 0 0 0), (.var 14), (.var 15), (.var 20), (.var 21)],
  .ef 48 2 100 [(.lit 0 0 0 0), (.lit 0 0 0 0), (.var 16), (.var 17), (.var 22), (.var 23)],
  .ef 50 2 102 [(.lit 0 0 0 0), (.lit 0 0 0 0), (.var 14), (.var 15), (.var 16), (.var 17)],
  .ef 52 2 102 [(.lit 0 0 0 0), (.lit 0 0 0 0), (.var 20), (.var 21), (.var 22), (.var 23)],
  .ef 54 2 100 (v2 [50, 50, 52]),
  .ef 56 2 103 (v2 [54, 54, 46]),
  .ef 58 2 103 (v2 [56, 56, 48]),
  .ef 60 2 107 (v2 [58, 58]),
  .ef 62 2 102 (v2 [60, 60, 44]),
  .ef 64 2 102 [(.lit 0 0 0 0), (.lit 0 0 0 0), (.var 12), (.var 13), (.var 14), (.var 15)],
  .ef 66 2 102 (v2 [52, 18, 20]),
  .ef 68 2 100 (v2 [64, 64, 66]),
  .ef 70 2 103 (v2 [68, 68, 44]),
  .ef 72 2 103 (v2 [70, 70, 46]),
  .ef 74 2 107 (v2 [66, 48]),
  .ef 76 2 102 (v2 [72, 72, 74]),
  .ef 78 2 102 (v2 [74, 12, 16]),
  .ef 80 2 102 [(.lit 0 0 0 0), (.lit 0 0 0 0), (.var 18), (.var 19), (.var 22), (.var 23)],
  .ef 82 2 100 (v2 [80, 80, 78]),
  .ef 84 2 103 (v2 [82, 82, 44]),
  .ef 86 2 103 (v2 [84, 84, 48]),
  .ef 88 2 102 (v2 [86, 86, 46]),
  .ef 90 2 100 [(.lit 0 0 0 0), (.lit 0 0 0 0), (.var 24), (.var 25), (.var 38), (.var 39)],
  .ef 92 2 100 [(.lit 0 0 0 0), (.lit 0 0 0 0), (.var 26), (.var 27), (.var 40), (.var 41)],
  .ef 94 2 100 [(.lit 0 0 0 0), (.lit 0 0 0 0), (.var 28), (.var 29), (.var 42), (.var 43)],
  .ef 96 2 102 [(.lit 0 0 0 0), (.lit 0 0 0 0), (.var 26), (.var 27), (.var 28), (.var 29)],
  .ef 98 2 102 [(.lit 0 0 0 0), (.lit 0 0 0 0), (.var 40), (.var 41), (.var 42), (.var 43)],
  .ef 100 2 100 (v2 [96, 96, 98]),
  .ef 102 2 103 (v2 [100, 100, 92]),
  .ef 104 2 103 (v2 [102, 102, 94]),
  .ef 106 2 107 (v2 [104, 104]),
  .ef 108 2 102 (v2 [106, 106, 90]),
  .ef 110 2 102 [(.lit 0 0 0 0), (.lit 0 0 0 0), (.var 24), (.var 25), (.var 26), (.var 27)],
  .ef 112 2 102 (v2 [98, 38, 40]),
  .ef 114 2 100 (v2 [110, 110, 112]),
  .ef 116 2 103 (v2 [114, 114, 90]),
  .ef 118 2 103 (v2 [116, 116, 92]),
  .ef 120 2 107 (v2 [112, 94]),
  .ef 122 2 102 (v2 [118, 118, 120]),
  .ef 124 2 102 (v2 [120, 24, 28]),
  .ef 126 2 102 [(.lit 0 0 0 0), (.lit 0 0 0 0), (.var 38), (.var 39), (.var 42), (.var 43)],
  .ef 128 2 100 (v2 [126, 126, 124]),
  .ef 130 2 103 (v2 [128, 128, 90]),
  .ef 132 2 103 (v2 [130, 130, 94]),
  .ef 134 2 102 (v2 [132, 132, 92]),
  .ef 136 2 102 (v2 [108, 108, 62]),
  .ef 138 2 102 (v2 [122, 122, 76]),
  .ef 140 2 102 (v2 [134, 134, 88]),
  .ef 142 2 104 (v2 [6, 62]),
  .ef 144 2 104 (v2 [8, 76]),
  .ef 146 2 104 (v2 [10, 88]),
  .ef 148 2 107 (v2 [88, 88]),
  .ef 150 2 102 (v2 [0, 136, 148]),
  .ef 152 2 102 (v2 [2, 138, 62]),
  .ef 154 2 102 (v2 [4, 140, 76])],
  (v2 [150, 152, 154, 142, 144, 146])⟩
def tb202 : SLP := ⟨[.ef 24 2 101 [(.lit 0 0 0 0), (.lit 0 0 0 0), (.var 20), (.var 21)],
  .ef 26 2 101 [(.lit 0 0 0 0), (.lit 0 0 0 0), (.var 12), (.var 13)],
  .ef 28 2 102 [(.lit 0 0 0 0), (.lit 0 0 0 0), (.var 20), (.var 21), (.var 12), (.var 13)],
  .ef 30 2 101 (v2 [28, 28]),
  .ef 32 2 103 (v2 [30, 30, 24]),
  .ef 34 2 103 (v2 [32, 32, 26]),
  .ef 36 2 101 [(.lit 0 0 0 0), (.lit 0 0 0 0), (.var 16), (.var 17)],
  .ef 38 2 101 [(.lit 0 0 0 0), (.lit 0 0 0 0), (.var 18), (.var 19)],
  .ef 40 2 102 [(.lit 0 0 0 0), (.lit 0 0 0 0), (.var 16), (.var 17), (.var 18), (.var 19)],
  .ef 42 2 101 (v2 [40, 40]),
  .ef 44 2 103 (v2 [42, 42, 36]),
  .ef 46 2 103 (v2 [44, 44, 38]),
  .ef 48 2 101 [(.lit 0 0 0 0), (.lit 0 0 0 0), (.var 22), (.var 23)],
  .ef 50 2 101 [(.lit 0 0 0 0), (.lit 0 0 0 0), (.var 14), (.var 15)],
  .ef 52 2 102 [(.lit 0 0 0 0), (.lit 0 0 0 0), (.var 22), (.var 23), (.var 14), (.var 15)],
  .ef 54 2 101 (v2 [52, 52]),
  .ef 56 2 103 (v2 [54, 54, 48]),
  .ef 58 2 103 (v2 [56, 56, 50]),
  .ef 60 2 107 (v2 [58, 58]),
  .ef 62 2 107 (v2 [24, 24]),
  .ef 64 2 102 (v2 [62, 62, 26]),
  .ef 66 2 107 (v2 [36, 36]),
  .ef 68 2 102 (v2 [66, 66, 38]),
  .ef 70 2 107 (v2 [48, 48]),
  .ef 72 2 102 (v2 [70, 70, 50]),
  .ef 74 2 103 (v2 [0, 64, 12]),
  .ef 76 2 104 (v2 [74, 74]),
  .ef 78 2 102 (v2 [76, 76, 64]),
  .ef 80 2 103 (v2 [2, 68, 14]),
  .ef 82 2 104 (v2 [80, 80]),
  .ef 84 2 102 (v2 [82, 82, 68]),
  .ef 86 2 103 (v2 [4, 72, 16]),
  .ef 88 2 104 (v2 [86, 86]),
  .ef 90 2 102 (v2 [88, 88, 72]),
  .ef 92 2 102 (v2 [6, 60, 18]),
  .ef 94 2 104 (v2 [92, 92]),
  .ef 96 2 102 (v2 [94, 94, 60]),
  .ef 98 2 102 (v2 [8, 34, 20]),
  .ef 100 2 104 (v2 [98, 98]),
  .ef 102 2 102 (v2 [100, 100, 34]),
  .ef 104 2 102 (v2 [10, 46, 22]),
  .ef 106 2 104 (v2 [104, 104]),
  .ef 108 2 102 (v2 [106, 106, 46])],
  (v2 [78, 84, 90, 96, 102, 108])⟩
def tb203 : SLP := ⟨[.ef 24 2 100 [(.lit 0 0 0 0), (.lit 0 0 0 0), (.var 12), (.var 13), (.var 14), (.var 15)],
  .ef 26 2 104 (v2 [24, 24]),
  .ef 28 2 101 [(.lit 0 0 0 0), (.lit 0 0 0 0), (.var 16), (.var 17)],
  .ef 30 2 107 [(.lit 0 0 0 0), (.lit 0 0 0 0), (.var 28), (.var 29)],
  .ef 32 2 102 (v2 [30, 30, 26]),
  .ef 34 2 103 [(.lit 0 0 0 0), (.lit 0 0 0 0), (.var 26), (.var 27), (.var 28), (.var 29)],
  .ef 36 2 101 [(.lit 0 0 0 0), (.lit 0 0 0 0), (.var 12), (.var 13)],
  .ef 38 2 103 (v2 [26, 12, 14]),
  .ef 40 2 102 (v2 [38, 38, 16]),
  .ef 42 2 100 (v2 [28, 14, 16]),
  .ef 44 2 104 (v2 [42, 42]),
  .ef 46 2 101 (v2 [40, 40]),
  .ef 48 2 107 [(.lit 0 0 0 0), (.lit 0 0 0 0), (.var 44), (.var 45)],
  .ef 50 2 102 (v2 [48, 48, 36]),
  .ef 52 2 102 [(.lit 0 0 0 0), (.lit 0 0 0 0), (.var 34), (.var 35), (.var 46), (.var 47)],
  .ef 54 2 102 (v2 [52, 52, 44]),
  .ef 56 2 103 (v2 [54, 54, 36]),
  .ef 58 2 100 [(.lit 0 0 0 0), (.lit 0 0 0 0), (.var 18), (.var 19), (.var 20), (.var 21)],
  .ef 60 2 104 (v2 [58, 58]),
  .ef 62 2 101 [(.lit 0 0 0 0), (.lit 0 0 0 0), (.var 22), (.var 23)],
  .ef 64 2 107 [(.lit 0 0 0 0), (.lit 0 0 0 0), (.var 62), (.var 63)],
  .ef 66 2 102 (v2 [64, 64, 60]),
  .ef 68 2 103 [(.lit 0 0 0 0), (.lit 0 0 0 0), (.var 60), (.var 61), (.var 62), (.var 63)],
  .ef 70 2 101 [(.lit 0 0 0 0), (.lit 0 0 0 0), (.var 18), (.var 19)],
  .ef 72 2 103 (v2 [60, 18, 20]),
  .ef 74 2 102 (v2 [72, 72, 22]),
  .ef 76 2 100 (v2 [62, 20, 22]),
  .ef 78 2 104 (v2 [76, 76]),
  .ef 80 2 101 (v2 [74, 74]),
  .ef 82 2 107 [(.lit 0 0 0 0), (.lit 0 0 0 0), (.var 78), (.var 79)],
  .ef 84 2 102 (v2 [82, 82, 70]),
  .ef 86 2 102 [(.lit 0 0 0 0), (.lit 0 0 0 0), (.var 68), (.var 69), (.var 80), (.var 81)],
  .ef 88 2 102 (v2 [86, 86, 78]),
  .ef 90 2 103 (v2 [88, 88, 70]),
  .ef 92 2 107 (v2 [90, 90]),
  .ef 94 2 103 (v2 [50, 50, 92]),
  .ef 96 2 103 (v2 [32, 32, 84]),
  .ef 98 2 103 (v2 [56, 56, 66]),
  .ef 100 2 101 [(.lit 0 0 0 0), (.lit 0 0 0 0), (.var 94), (.var 95)],
  .ef 102 2 101 [(.lit 0 0 0 0), (.lit 0 0 0 0), (.var 96), (.var 97)],
  .ef 104 2 101 [(.lit 0 0 0 0), (.lit 0 0 0 0), (.var 98), (.var 99)],
  .ef 106 2 100 [(.lit 0 0 0 0), (.lit 0 0 0 0), (.var 94), (.var 95), (.var 96), (.var 97)],
  .ef 108 2 100 [(.lit 0 0 0 0), (.lit 0 0 0 0), (.var 94), (.var 95), (.var 98), (.var 99)],
  .ef 110 2 100 [(.lit 0 0 0 0), (.lit 0 0 0 0), (.var 96), (.var 97), (.var 98), (.var 99)],
  .ef 112 2 107 [(.lit 0 0 0 0), (.lit 0 0 0 0), (.var 110), (.var 111)],
  .ef 114 2 105 (v2 [112, 112]),
  .ef 116 2 102 (v2 [114, 114, 100]),
  .ef 118 2 107 [(.lit 0 0 0 0), (.lit 0 0 0 0), (.var 104), (.var 105)],
  .ef 120 2 103 (v2 [118, 118, 106]),
  .ef 122 2 103 [(.lit 0 0 0 0), (.lit 0 0 0 0), (.var 102), (.var 103), (.var 108), (.var 109)],
  .ef 124 2 100 [(.lit 0 0 0 0), (.lit 0 0 0 0), (.var 94), (.var 95), (.var 116), (.var 117)],
  .ef 126 2 100 [(.lit 0 0 0 0), (.lit 0 0 0 0), (.var 98), (.var 99), (.var 120), (.var 121)],
  .ef 128 2 100 [(.lit 0 0 0 0), (.lit 0 0 0 0), (.var 96), (.var 97), (.var 122), (.var 123)],
  .ef 130 2 102 (v2 [126, 126, 128]),
  .ef 132 2 107 (v2 [130, 130]),
  .ef 134 2 102 (v2 [124, 124, 132]),
  .ef 136 2 111 (v2 [134, 134]),
  .ef 138 2 100 (v2 [84, 116, 136]),
  .ef 140 2 100 (v2 [66, 120, 136]),
  .ef 142 2 100 (v2 [90, 122, 136]),
  .ef 144 2 100 [(.lit 0 0 0 0), (.lit 0 0 0 0), (.var 12), (.var 13), (.var 138), (.var 139)],
  .ef 146 2 100 [(.lit 0 0 0 0), (.lit 0 0 0 0), (.var 14), (.var 15), (.var 140), (.var 141)],
  .ef 148 2 100 [(.lit 0 0 0 0), (.lit 0 0 0 0), (.var 16), (.var 17), (.var 142), (.var 143)],
  .ef 150 2 102 [(.lit 0 0 0 0), (.lit 0 0 0 0), (.var 14), (.var 15), (.var 16), (.var 17)],
  .ef 152 2 102 [(.lit 0 0 0 0), (.lit 0 0 0 0), (.var 140), (.var 141), (.var 142), (.var 143)],
  .ef 154 2 100 (v2 [150, 150, 152]),
  .ef 156 2 103 (v2 [154, 154, 146]),
  .ef 158 2 103 (v2 [156, 156, 148]),
  .ef 160 2 107 (v2 [158, 158]),
  .ef 162 2 102 (v2 [160, 160, 144]),
  .ef 164 2 102 [(.lit 0 0 0 0), (.lit 0 0 0 0), (.var 12), (.var 13), (.var 14), (.var 15)],
  .ef 166 2 102 (v2 [152, 138, 140]),
  .ef 168 2 100 (v2 [164, 164, 166]),
  .ef 170 2 103 (v2 [168, 168, 144]),
  .ef 172 2 103 (v2 [170, 170, 146]),
  .ef 174 2 107 (v2 [166, 148]),
  .ef 176 2 102 (v2 [172, 172, 174]),
  .ef 178 2 102 (v2 [174, 12, 16]),
  .ef 180 2 102 [(.lit 0 0 0 0), (.lit 0 0 0 0), (.var 138), (.var 139), (.var 142), (.var 143)],
  .ef 182 2 100 (v2 [180, 180, 178]),
  .ef 184 2 103 (v2 [182, 182, 144]),
  .ef 186 2 103 (v2 [184, 184, 148]),
  .ef 188 2 102 (v2 [186, 186, 146]),
  .ef 190 2 100 [(.lit 0 0 0 0), (.lit 0 0 0 0), (.var 18), (.var 19), (.var 138), (.var 139)],
  .ef 192 2 100 [(.lit 0 0 0 0), (.lit 0 0 0 0), (.var 20), (.var 21), (.var 140), (.var 141)],
  .ef 194 2 100 [(.lit 0 0 0 0), (.lit 0 0 0 0), (.var 22), (.var 23), (.var 142), (.var 143)],
  .ef 196 2 102 [(.lit 0 0 0 0), (.lit 0 0 0 0), (.var 20), (.var 21), (.var 22), (.var 23)],
  .ef 198 2 102 [(.lit 0 0 0 0), (.lit 0 0 0 0), (.var 140), (.var 141), (.var 142), (.var 143)],
  .ef 200 2 100 (v2 [196, 196, 198]),
  .ef 202 2 103 (v2 [200, 200, 192]),
  .ef 204 2 103 (v2 [202, 202, 194]),
  .ef 206 2 107 (v2 [204, 204]),
  .ef 208 2 102 (v2 [206, 206, 190]),
  .ef 210 2 102 [(.lit 0 0 0 0), (.lit 0 0 0 0), (.var 18), (.var 19), (.var 20), (.var 21)],
  .ef 212 2 102 (v2 [198, 138, 140]),
  .ef 214 2 100 (v2 [210, 210, 212]),
  .ef 216 2 103 (v2 [214, 214, 190]),
  .ef 218 2 103 (v2 [216, 216, 192]),
  .ef 220 2 107 (v2 [212, 194]),
  .ef 222 2 102 (v2 [218, 218, 220]),
  .ef 224 2 102 (v2 [220, 18, 22]),
  .ef 226 2 102 [(.lit 0 0 0 0), (.lit 0 0 0 0), (.var 138), (.var 139), (.var 142), (.var 143)],
  .ef 228 2 100 (v2 [226, 226, 224]),
  .ef 230 2 103 (v2 [228, 228, 190]),
  .ef 232 2 103 (v2 [230, 230, 194]),
  .ef 234 2 102 (v2 [232, 232, 192]),
  .ef 236 2 105 (v2 [208, 208]),
  .ef 238 2 105 (v2 [222, 222]),
  .ef 240 2 105 (v2 [234, 234])],
  (v2 [162, 176, 188, 236, 238, 240])⟩
def tb204 : SLP := ⟨[.ef 24 2 105 (v2 [18, 18]),
  .ef 26 2 105 (v2 [20, 20]),
  .ef 28 2 105 (v2 [22, 22])],
  (v2 [12, 14, 16, 24, 26, 28])⟩
def tb205 : SLP := ⟨[.ef 24 2 106 [(.lit 0 0 0 0), (.lit 0 0 0 0), (.var 12), (.var 13)],
  .ef 26 2 106 [(.lit 0 0 0 0), (.lit 0 0 0 0), (.var 14), (.var 15)],
  .ef 28 2 106 [(.lit 0 0 0 0), (.lit 0 0 0 0), (.var 16), (.var 17)],
  .ef 30 2 106 [(.lit 0 0 0 0), (.lit 0 0 0 0), (.var 18), (.var 19)],
  .ef 32 2 106 [(.lit 0 0 0 0), (.lit 0 0 0 0), (.var 20), (.var 21)],
  .ef 34 2 106 [(.lit 0 0 0 0), (.lit 0 0 0 0), (.var 22), (.var 23)],
  .ef 36 2 122 (v2 [26, 26]),
  .ef 38 2 124 (v2 [28, 28]),
  .ef 40 2 121 (v2 [30, 30]),
  .ef 42 2 123 (v2 [32, 32]),
  .ef 44 2 125 (v2 [34, 34])],
  (v2 [24, 36, 38, 40, 42, 44])⟩
def tb206 : SLP := ⟨[.ef 24 2 132 (v2 [2, 14]),
  .ef 26 2 134 (v2 [4, 16]),
  .ef 28 2 131 (v2 [6, 18]),
  .ef 30 2 133 (v2 [8, 20]),
  .ef 32 2 135 (v2 [10, 22])],
  (v2 [12, 24, 26, 28, 30, 32])⟩
def tb207 : SLP := ⟨[.ef 24 2 106 [(.lit 0 0 0 0), (.lit 0 0 0 0), (.var 12), (.var 13)],
  .ef 26 2 106 [(.lit 0 0 0 0), (.lit 0 0 0 0), (.var 14), (.var 15)],
  .ef 28 2 106 [(.lit 0 0 0 0), (.lit 0 0 0 0), (.var 16), (.var 17)],
  .ef 30 2 106 [(.lit 0 0 0 0), (.lit 0 0 0 0), (.var 18), (.var 19)],
  .ef 32 2 106 [(.lit 0 0 0 0), (.lit 0 0 0 0), (.var 20), (.var 21)],
  .ef 34 2 106 [(.lit 0 0 0 0), (.lit 0 0 0 0), (.var 22), (.var 23)],
  .ef 36 2 142 (v2 [26, 26]),
  .ef 38 2 144 (v2 [28, 28]),
  .ef 40 2 141 (v2 [30, 30]),
  .ef 42 2 143 (v2 [32, 32]),
  .ef 44 2 145 (v2 [34, 34])],
  (v2 [24, 36, 38, 40, 42, 44])⟩
def tb208 : SLP := ⟨[.ef 18 2 100 [(.lit 0 0 0 0), (.lit 0 0 0 0), (.var 0), (.var 1), (.var 12), (.var 13)],
  .ef 20 2 100 [(.lit 0 0 0 0), (.lit 0 0 0 0), (.var 2), (.var 3), (.var 12), (.var 13)],
  .ef 22 2 100 [(.lit 0 0 0 0), (.lit 0 0 0 0), (.var 4), (.var 5), (.var 12), (.var 13)],
  .ef 24 2 100 [(.lit 0 0 0 0), (.lit 0 0 0 0), (.var 6), (.var 7), (.var 14), (.var 15)],
  .ef 26 2 100 [(.lit 0 0 0 0), (.lit 0 0 0 0), (.var 8), (.var 9), (.var 16), (.var 17)],
  .ef 28 2 102 [(.lit 0 0 0 0), (.lit 0 0 0 0), (.var 8), (.var 9), (.var 10), (.var 11)],
  .ef 30 2 100 [(.lit 0 0 0 0), (.lit 0 0 0 0), (.var 16), (.var 17), (.var 28), (.var 29)],
  .ef 32 2 103 (v2 [30, 30, 26]),
  .ef 34 2 107 (v2 [32, 32]),
  .ef 36 2 102 (v2 [34, 34, 24]),
  .ef 38 2 102 (v2 [28, 6, 10]),
  .ef 40 2 100 [(.lit 0 0 0 0), (.lit 0 0 0 0), (.var 14), (.var 15), (.var 38), (.var 39)],
  .ef 42 2 103 (v2 [40, 40, 24]),
  .ef 44 2 102 (v2 [42, 42, 26]),
  .ef 46 2 102 [(.lit 0 0 0 0), (.lit 0 0 0 0), (.var 14), (.var 15), (.var 16), (.var 17)],
  .ef 48 2 102 (v2 [38, 6, 8]),
  .ef 50 2 100 (v2 [46, 46, 48]),
  .ef 52 2 103 (v2 [50, 50, 24]),
  .ef 54 2 103 (v2 [52, 52, 26]),
  .ef 56 2 102 [(.lit 0 0 0 0), (.lit 0 0 0 0), (.var 12), (.var 13), (.var 14), (.var 15)],
  .ef 58 2 102 [(.lit 0 0 0 0), (.lit 0 0 0 0), (.var 0), (.var 1), (.var 6), (.var 7)],
  .ef 60 2 102 [(.lit 0 0 0 0), (.lit 0 0 0 0), (.var 2), (.var 3), (.var 8), (.var 9)],
  .ef 62 2 102 [(.lit 0 0 0 0), (.lit 0 0 0 0), (.var 4), (.var 5), (.var 10), (.var 11)],
  .ef 64 2 100 [(.lit 0 0 0 0), (.lit 0 0 0 0), (.var 58), (.var 59), (.var 56), (.var 57)],
  .ef 66 2 100 [(.lit 0 0 0 0), (.lit 0 0 0 0), (.var 60), (.var 61), (.var 16), (.var 17)],
  .ef 68 2 102 [(.lit 0 0 0 0), (.lit 0 0 0 0), (.var 60), (.var 61), (.var 62), (.var 63)],
  .ef 70 2 100 [(.lit 0 0 0 0), (.lit 0 0 0 0), (.var 16), (.var 17), (.var 68), (.var 69)],
  .ef 72 2 103 (v2 [70, 70, 66]),
  .ef 74 2 107 (v2 [72, 72]),
  .ef 76 2 102 (v2 [74, 74, 64]),
  .ef 78 2 102 (v2 [68, 58, 62]),
  .ef 80 2 100 [(.lit 0 0 0 0), (.lit 0 0 0 0), (.var 56), (.var 57), (.var 78), (.var 79)],
  .ef 82 2 103 (v2 [80, 80, 64]),
  .ef 84 2 102 (v2 [82, 82, 66]),
  .ef 86 2 102 [(.lit 0 0 0 0), (.lit 0 0 0 0), (.var 56), (.var 57), (.var 16), (.var 17)],
  .ef 88 2 102 (v2 [78, 58, 60]),
  .ef 90 2 100 (v2 [86, 86, 88]),
  .ef 92 2 103 (v2 [90, 90, 64]),
  .ef 94 2 103 (v2 [92, 92, 66]),
  .ef 96 2 102 (v2 [6, 18, 36]),
  .ef 98 2 102 (v2 [8, 20, 54]),
  .ef 100 2 102 (v2 [10, 22, 44]),
  .ef 102 2 105 (v2 [96, 96]),
  .ef 104 2 105 (v2 [98, 98]),
  .ef 106 2 105 (v2 [100, 100]),
  .ef 108 2 102 (v2 [102, 102, 76]),
  .ef 110 2 102 (v2 [104, 104, 94]),
  .ef 112 2 102 (v2 [106, 106, 84]),
  .ef 114 2 107 (v2 [44, 44]),
  .ef 116 2 102 (v2 [114, 114, 18]),
  .ef 118 2 102 (v2 [36, 36, 20]),
  .ef 120 2 102 (v2 [54, 54, 22])],
  (v2 [116, 118, 120, 108, 110, 112])⟩
def tb209 : SLP := ⟨[.ef 22 2 102 [(.lit 0 0 0 0), (.lit 0 0 0 0), (.var 0), (.var 1), (.var 6), (.var 7)],
  .ef 24 2 102 [(.lit 0 0 0 0), (.lit 0 0 0 0), (.var 2), (.var 3), (.var 8), (.var 9)],
  .ef 26 2 102 [(.lit 0 0 0 0), (.lit 0 0 0 0), (.var 4), (.var 5), (.var 10), (.var 11)],
  .ef 28 2 102 [(.lit 0 0 0 0), (.lit 0 0 0 0), (.var 12), (.var 13), (.var 18), (.var 19)],
  .ef 30 2 102 [(.lit 0 0 0 0), (.lit 0 0 0 0), (.var 14), (.var 15), (.var 20), (.var 21)],
  .ef 32 2 102 [(.lit 0 0 0 0), (.lit 0 0 0 0), (.var 16), (.var 17), (.lit 0 0 0 0), (.lit 0 0 0 0)],
  .ef 34 2 100 [(.lit 0 0 0 0), (.lit 0 0 0 0), (.var 22), (.var 23), (.var 28), (.var 29)],
  .ef 36 2 100 [(.lit 0 0 0 0), (.lit 0 0 0 0), (.var 24), (.var 25), (.var 30), (.var 31)],
  .ef 38 2 100 [(.lit 0 0 0 0), (.lit 0 0 0 0), (.var 26), (.var 27), (.var 32), (.var 33)],
  .ef 40 2 102 [(.lit 0 0 0 0), (.lit 0 0 0 0), (.var 24), (.var 25), (.var 26), (.var 27)],
  .ef 42 2 102 [(.lit 0 0 0 0), (.lit 0 0 0 0), (.var 30), (.var 31), (.var 32), (.var 33)],
  .ef 44 2 100 (v2 [40, 40, 42]),
  .ef 46 2 103 (v2 [44, 44, 36]),
  .ef 48 2 103 (v2 [46, 46, 38]),
  .ef 50 2 107 (v2 [48, 48]),
  .ef 52 2 102 (v2 [50, 50, 34]),
  .ef 54 2 102 [(.lit 0 0 0 0), (.lit 0 0 0 0), (.var 22), (.var 23), (.var 24), (.var 25)],
  .ef 56 2 102 (v2 [42, 28, 30]),
  .ef 58 2 100 (v2 [54, 54, 56]),
  .ef 60 2 103 (v2 [58, 58, 34]),
  .ef 62 2 103 (v2 [60, 60, 36]),
  .ef 64 2 107 (v2 [56, 38]),
  .ef 66 2 102 (v2 [62, 62, 64]),
  .ef 68 2 102 (v2 [64, 22, 26]),
  .ef 70 2 102 [(.lit 0 0 0 0), (.lit 0 0 0 0), (.var 28), (.var 29), (.var 32), (.var 33)],
  .ef 72 2 100 (v2 [70, 70, 68]),
  .ef 74 2 103 (v2 [72, 72, 34]),
  .ef 76 2 103 (v2 [74, 74, 38]),
  .ef 78 2 102 (v2 [76, 76, 36]),
  .ef 80 2 100 [(.lit 0 0 0 0), (.lit 0 0 0 0), (.var 0), (.var 1), (.var 12), (.var 13)],
  .ef 82 2 100 [(.lit 0 0 0 0), (.lit 0 0 0 0), (.var 2), (.var 3), (.var 14), (.var 15)],
  .ef 84 2 100 [(.lit 0 0 0 0), (.lit 0 0 0 0), (.var 4), (.var 5), (.var 16), (.var 17)],
  .ef 86 2 102 [(.lit 0 0 0 0), (.lit 0 0 0 0), (.var 2), (.var 3), (.var 4), (.var 5)],
  .ef 88 2 102 [(.lit 0 0 0 0), (.lit 0 0 0 0), (.var 14), (.var 15), (.var 16), (.var 17)],
  .ef 90 2 100 (v2 [86, 86, 88]),
  .ef 92 2 103 (v2 [90, 90, 82]),
  .ef 94 2 103 (v2 [92, 92, 84]),
  .ef 96 2 107 (v2 [94, 94]),
  .ef 98 2 102 (v2 [96, 96, 80]),
  .ef 100 2 102 [(.lit 0 0 0 0), (.lit 0 0 0 0), (.var 0), (.var 1), (.var 2), (.var 3)],
  .ef 102 2 102 (v2 [88, 12, 14]),
  .ef 104 2 100 (v2 [100, 100, 102]),
  .ef 106 2 103 (v2 [104, 104, 80]),
  .ef 108 2 103 (v2 [106, 106, 82]),
  .ef 110 2 107 (v2 [102, 84]),
  .ef 112 2 102 (v2 [108, 108, 110]),
  .ef 114 2 102 (v2 [110, 0, 4]),
  .ef 116 2 102 [(.lit 0 0 0 0), (.lit 0 0 0 0), (.var 12), (.var 13), (.var 16), (.var 17)],
  .ef 118 2 100 (v2 [116, 116, 114]),
  .ef 120 2 103 (v2 [118, 118, 80]),
  .ef 122 2 103 (v2 [120, 120, 84]),
  .ef 124 2 102 (v2 [122, 122, 82]),
  .ef 126 2 100 [(.lit 0 0 0 0), (.lit 0 0 0 0), (.var 6), (.var 7), (.var 18), (.var 19)],
  .ef 128 2 100 [(.lit 0 0 0 0), (.lit 0 0 0 0), (.var 8), (.var 9), (.var 20), (.var 21)],
  .ef 130 2 102 [(.lit 0 0 0 0), (.lit 0 0 0 0), (.var 8), (.var 9), (.var 10), (.var 11)],
  .ef 132 2 100 [(.lit 0 0 0 0), (.lit 0 0 0 0), (.var 20), (.var 21), (.var 130), (.var 131)],
  .ef 134 2 103 (v2 [132, 132, 128]),
  .ef 136 2 107 (v2 [134, 134]),
  .ef 138 2 102 (v2 [136, 136, 126]),
  .ef 140 2 102 (v2 [130, 6, 10]),
  .ef 142 2 100 [(.lit 0 0 0 0), (.lit 0 0 0 0), (.var 18), (.var 19), (.var 140), (.var 141)],
  .ef 144 2 103 (v2 [142, 142, 126]),
  .ef 146 2 102 (v2 [144, 144, 128]),
  .ef 148 2 102 [(.lit 0 0 0 0), (.lit 0 0 0 0), (.var 18), (.var 19), (.var 20), (.var 21)],
  .ef 150 2 102 (v2 [140, 6, 8]),
  .ef 152 2 100 (v2 [148, 148, 150]),
  .ef 154 2 103 (v2 [152, 152, 126]),
  .ef 156 2 103 (v2 [154, 154, 128]),
  .ef 158 2 103 [(.lit 0 0 0 0), (.lit 0 0 0 0), (.var 52), (.var 53), (.var 98), (.var 99)],
  .ef 160 2 103 [(.lit 0 0 0 0), (.lit 0 0 0 0), (.var 66), (.var 67), (.var 112), (.var 113)],
  .ef 162 2 103 [(.lit 0 0 0 0), (.lit 0 0 0 0), (.var 78), (.var 79), (.var 124), (.var 125)],
  .ef 164 2 103 (v2 [158, 158, 138]),
  .ef 166 2 103 (v2 [160, 160, 156]),
  .ef 168 2 103 (v2 [162, 162, 146]),
  .ef 170 2 107 (v2 [146, 146]),
  .ef 172 2 102 (v2 [170, 170, 98]),
  .ef 174 2 102 (v2 [138, 138, 112]),
  .ef 176 2 102 (v2 [156, 156, 124])],
  (v2 [172, 174, 176, 164, 166, 168])⟩
def tb210 : SLP := ⟨[.ef 12 2 100 [(.lit 0 0 0 0), (.lit 0 0 0 0), (.var 6), (.var 7), (.var 0), (.var 1)],
  .ef 14 2 100 [(.lit 0 0 0 0), (.lit 0 0 0 0), (.var 8), (.var 9), (.var 2), (.var 3)],
  .ef 16 2 100 [(.lit 0 0 0 0), (.lit 0 0 0 0), (.var 10), (.var 11), (.var 4), (.var 5)],
  .ef 18 2 102 [(.lit 0 0 0 0), (.lit 0 0 0 0), (.var 6), (.var 7), (.var 10), (.var 11)],
  .ef 20 2 102 [(.lit 0 0 0 0), (.lit 0 0 0 0), (.var 0), (.var 1), (.var 4), (.var 5)],
  .ef 22 2 100 (v2 [20, 20, 18]),
  .ef 24 2 103 (v2 [22, 22, 12]),
  .ef 26 2 103 (v2 [24, 24, 16]),
  .ef 28 2 102 (v2 [18, 6, 8]),
  .ef 30 2 102 [(.lit 0 0 0 0), (.lit 0 0 0 0), (.var 0), (.var 1), (.var 2), (.var 3)],
  .ef 32 2 100 (v2 [30, 30, 28]),
  .ef 34 2 103 (v2 [32, 32, 12]),
  .ef 36 2 103 (v2 [34, 34, 14]),
  .ef 38 2 102 (v2 [28, 8, 10]),
  .ef 40 2 102 [(.lit 0 0 0 0), (.lit 0 0 0 0), (.var 2), (.var 3), (.var 4), (.var 5)],
  .ef 42 2 100 (v2 [40, 40, 38]),
  .ef 44 2 103 (v2 [42, 42, 14]),
  .ef 46 2 103 (v2 [44, 44, 16]),
  .ef 48 2 107 [(.lit 0 0 0 0), (.lit 0 0 0 0), (.var 16), (.var 17)],
  .ef 50 2 102 (v2 [48, 48, 12])],
  (v2 [50, 14, 46, 36, 26])⟩
def tb211 : SLP := ⟨[.ef 12 2 100 [(.lit 0 0 0 0), (.lit 0 0 0 0), (.var 0), (.var 1), (.var 2), (.var 3)],
  .ef 14 2 109 (v2 [12]),
  .ef 16 2 101 [(.lit 0 0 0 0), (.lit 0 0 0 0), (.var 2), (.var 3)],
  .ef 18 2 101 [(.lit 0 0 0 0), (.lit 0 0 0 0), (.var 4), (.var 5)],
  .ef 20 2 104 [(.lit 0 0 0 0), (.lit 0 0 0 0), (.var 18), (.var 19)],
  .ef 22 2 102 (v2 [20, 20, 18]),
  .ef 24 2 110 [(.lit 0 0 0 0), (.lit 0 0 0 0), (.var 22), (.var 23)],
  .ef 26 2 104 [(.lit 0 0 0 0), (.lit 0 0 0 0), (.var 24), (.var 25)],
  .ef 28 2 102 (v2 [26, 26, 24]),
  .ef 30 2 102 [(.lit 0 0 0 0), (.lit 0 0 0 0), (.var 16), (.var 17), (.var 28), (.var 29)],
  .ef 32 2 109 (v2 [30]),
  .ef 34 2 102 [(.lit 0 0 0 0), (.lit 0 0 0 0), (.var 2), (.var 3), (.var 4), (.var 5)],
  .ef 36 2 101 (v2 [34, 34]),
  .ef 38 2 102 [(.lit 0 0 0 0), (.lit 0 0 0 0), (.var 16), (.var 17), (.var 18), (.var 19)],
  .ef 40 2 103 (v2 [36, 36, 38]),
  .ef 42 2 103 [(.lit 0 0 0 0), (.lit 0 0 0 0), (.var 24), (.var 25), (.var 16), (.var 17)],
  .ef 44 2 101 [(.lit 0 0 0 0), (.lit 0 0 0 0), (.var 0), (.var 1)],
  .ef 46 2 101 [(.lit 0 0 0 0), (.lit 0 0 0 0), (.var 24), (.var 25)],
  .ef 48 2 104 [(.lit 0 0 0 0), (.lit 0 0 0 0), (.var 46), (.var 47)],
  .ef 50 2 102 (v2 [48, 48, 46]),
  .ef 52 2 103 (v2 [0, 16, 28]),
  .ef 54 2 100 (v2 [52, 52, 14]),
  .ef 56 2 101 (v2 [2, 32]),
  .ef 58 2 103 (v2 [56, 56, 50]),
  .ef 60 2 100 (v2 [4, 16, 40]),
  .ef 62 2 105 (v2 [6, 40]),
  .ef 64 2 104 (v2 [8, 44]),
  .ef 66 2 102 (v2 [64, 64, 44])],
  (v2 [54, 58, 60, 62, 66, 42])⟩
def tb212 : SLP := ⟨[.ef 16 2 100 [(.lit 0 0 0 0), (.lit 0 0 0 0), (.var 14), (.var 15), (.var 4), (.var 5)],
  .ef 18 2 103 [(.lit 0 0 0 0), (.lit 0 0 0 0), (.var 2), (.var 3), (.var 16), (.var 17)],
  .ef 20 2 100 [(.lit 0 0 0 0), (.lit 0 0 0 0), (.var 12), (.var 13), (.var 4), (.var 5)],
  .ef 22 2 103 [(.lit 0 0 0 0), (.lit 0 0 0 0), (.var 0), (.var 1), (.var 20), (.var 21)],
  .ef 24 2 101 [(.lit 0 0 0 0), (.lit 0 0 0 0), (.var 18), (.var 19)],
  .ef 26 2 101 [(.lit 0 0 0 0), (.lit 0 0 0 0), (.var 22), (.var 23)],
  .ef 28 2 100 [(.lit 0 0 0 0), (.lit 0 0 0 0), (.var 22), (.var 23), (.var 26), (.var 27)],
  .ef 30 2 100 [(.lit 0 0 0 0), (.lit 0 0 0 0), (.var 4), (.var 5), (.var 24), (.var 25)],
  .ef 32 2 100 [(.lit 0 0 0 0), (.lit 0 0 0 0), (.var 0), (.var 1), (.var 26), (.var 27)],
  .ef 34 2 104 [(.lit 0 0 0 0), (.lit 0 0 0 0), (.var 32), (.var 33)],
  .ef 36 2 102 [(.lit 0 0 0 0), (.lit 0 0 0 0), (.var 28), (.var 29), (.var 30), (.var 31)],
  .ef 38 2 103 (v2 [36, 36, 34]),
  .ef 40 2 100 [(.lit 0 0 0 0), (.lit 0 0 0 0), (.var 2), (.var 3), (.var 28), (.var 29)],
  .ef 42 2 100 (v2 [0, 22, 38]),
  .ef 44 2 103 (v2 [2, 32, 38]),
  .ef 46 2 100 (v2 [44, 44, 18]),
  .ef 48 2 103 (v2 [46, 46, 40]),
  .ef 50 2 100 (v2 [4, 28, 4]),
  .ef 52 2 100 [(.lit 0 0 0 0), (.lit 0 0 0 0), (.var 22), (.var 23), (.var 14), (.var 15)],
  .ef 54 2 100 [(.lit 0 0 0 0), (.lit 0 0 0 0), (.var 12), (.var 13), (.var 18), (.var 19)],
  .ef 56 2 103 (v2 [54, 54, 52]),
  .ef 58 2 105 (v2 [8, 18])],
  (v2 [42, 48, 50, 22, 58, 56])⟩
def tb213 : SLP := ⟨[.ef 16 2 100 [(.lit 0 0 0 0), (.lit 0 0 0 0), (.var 14), (.var 15), (.var 4), (.var 5)],
  .ef 18 2 103 [(.lit 0 0 0 0), (.lit 0 0 0 0), (.var 2), (.var 3), (.var 16), (.var 17)],
  .ef 20 2 100 [(.lit 0 0 0 0), (.lit 0 0 0 0), (.var 12), (.var 13), (.var 4), (.var 5)],
  .ef 22 2 103 [(.lit 0 0 0 0), (.lit 0 0 0 0), (.var 0), (.var 1), (.var 20), (.var 21)],
  .ef 24 2 100 [(.lit 0 0 0 0), (.lit 0 0 0 0), (.var 22), (.var 23), (.var 14), (.var 15)],
  .ef 26 2 100 [(.lit 0 0 0 0), (.lit 0 0 0 0), (.var 12), (.var 13), (.var 18), (.var 19)],
  .ef 28 2 103 (v2 [26, 26, 24]),
  .ef 30 2 105 (v2 [8, 18])],
  (v2 [22, 30, 28])⟩
def tblL : List (Nat × SLP) := [(100, tb100), (101, tb101), (102, tb102), (103, tb103), (104, tb104), (105, tb105), (106, tb106), (107, tb107), (108, tb108), (109, tb109), (110, tb110), (111, tb111), (121, tb121), (122, tb122), (123, tb123), (124, tb124), (125, tb125), (131, tb131), (132, tb132), (133, tb133), (134, tb134), (135, tb135), (141, tb141), (142, tb142), (143, tb143), (144, tb144), (145, tb145), (200, tb200), (201, tb201), (202, tb202), (203, tb203), (204, tb204), (205, tb205), (206, tb206), (207, tb207), (208, tb208), (209, tb209), (210, tb210), (211, tb211), (212, tb212), (213, tb213)]
def fpBin : Nat → Fp → Fp → Fp
  | 0, x, y => x * y
  | 1, x, y => x + y
  | 2, x, y => x - y
  | _, x, _ => x
def fpUn : Nat → Fp → Fp
  | 0, x => x * x
  | 1, x => x + x
  | 2, x => -x
  | 3, x => if x = 0 then 0 else Fld.inv x
  | _, x => x
def tbl (k : Nat) : SLP := match lk tblL k with
  | some t => t
  | none => ⟨[], []⟩
def feE (e : Nat → Fp) : FE → Fp
  | .var i => e i
  | .lit a b c d => unmont (val4 a b c d)
def stepE (F : Nat → List Fp → List Fp) (e : Nat → Fp) : TOp → Nat → Fp
  | .ebin i k x y => fun j => if j = i then fpBin k (feE e x) (feE e y) else e j
  | .eun i k x => fun j => if j = i then fpUn k (feE e x) else e j
  | .ef i n k xs => fun j => if i ≤ j ∧ j < i + n then (F k (xs.map (feE e))).getD (j - i) 0 else e j
  | _ => e
def runE (F : Nat → List Fp → List Fp) : List TOp → (Nat → Fp) → Nat → Fp
  | [], e => e
  | o :: r, e => runE F r (stepE F e o)
def slp (F : Nat → List Fp → List Fp) (t : SLP) (xs : List Fp) : List Fp := t.outs.map (feE (runE F t.rows (fun j => xs.getD j 0)))
theorem slp_length (F : Nat → List Fp → List Fp) (t : SLP) (xs : List Fp) : (slp F t xs).length = t.outs.length := by simp [slp]
/-- the half of one -/
def fpHalf : Fp := ⟨(pP + 1) / 2, by decide⟩
def fpRi : Fp := ⟨mRi, by decide⟩
def efB (k : Nat) (xs : List Fp) : List Fp :=
  if k = 8 then [xs.headD 0 * fpHalf] else if k = 9 then [xs.headD 0 * fpRi] else efF0 k xs
def efNB (k : Nat) : Nat := if k = 8 then 1 else if k = 9 then 1 else efN0 k
theorem efB_length (k : Nat) (xs : List Fp) : (efB k xs).length = efNB k := by
  unfold efB efNB
  split
  · rfl
  · split
    · rfl
    · exact efF0_length k xs
def ef1 (k : Nat) (xs : List Fp) : List Fp := if k < 100 then efB k xs else slp efB (tbl k) xs
def ef2 (k : Nat) (xs : List Fp) : List Fp := if k < 200 then ef1 k xs else slp ef1 (tbl k) xs
/-- the functions on several elements -/
def efF (k : Nat) (xs : List Fp) : List Fp := ef2 k xs
def efN (k : Nat) : Nat := match Nat.blt k 100 with
  | true => efNB k
  | false => (tbl k).outs.length
theorem efF_length (k : Nat) (xs : List Fp) : (efF k xs).length = efN k := by
  unfold efF ef2 ef1 efN
  cases h : Nat.blt k 100 with
  | true =>
    have h : k < 100 := Nat.le_of_ble_eq_true h
    rw [if_pos (by omega), if_pos h]; exact efB_length k xs
  | false =>
    have h : ¬ k < 100 := fun h2 => by
      have : Nat.blt k 100 = true := Nat.ble_eq_true_of_le h2
      rw [h] at this; simp at this
    simp only [if_neg h]
    split
    · exact slp_length _ _ _
    · exact slp_length _ _ _
theorem efF_l1 {k : Nat} (h : 100 ≤ k) (h' : k < 200) (xs : List Fp) : efF k xs = slp efB (tbl k) xs := (if_pos h').trans (if_neg (by omega))
theorem efF_l2 {k : Nat} (h : 200 ≤ k) (xs : List Fp) : efF k xs = slp ef1 (tbl k) xs := if_neg (by omega)
theorem efF_one {k : Nat} (h : k < 200) (xs : List Fp) : efF k xs = ef1 k xs := if_pos h
theorem efF_base {k : Nat} (h : k < 100) (xs : List Fp) : efF k xs = efB k xs := (if_pos (by omega)).trans (if_pos h)
/-- how many digits a number has -/
def blen (n : Nat) : Nat := if n = 0 then 0 else Nat.log2 n + 1
def val4I (a b c d : Int) : Int := a + 2 ^ 64 * (b + 2 ^ 64 * (c + 2 ^ 64 * d))
/-- a number's 31 lowest digits, and 33 below the n-th -/
def apx (v n : Int) : Int := if n ≤ 64 then v % 2 ^ 64 else v % 2 ^ 31 + 2 ^ 31 * ((v % 2 ^ n.toNat) / 2 ^ (n.toNat - 33))
def w5 (v : Int) : List Int := [v % 2 ^ 64, v / 2 ^ 64 % 2 ^ 64, v / 2 ^ 128 % 2 ^ 64, v / 2 ^ 192 % 2 ^ 64, v / 2 ^ 256 % 2 ^ 64]
/-- functions on words: 0 the product, 1 the sum with a carry, 2 the difference with a borrow, 3 and 10 the digits, 11 the approximation, 12 the combination -/
def pfF : Nat → List Int → List Int
  | 0, [a, b] => [a * b / 2 ^ 64, a * b % 2 ^ 64]
  | 1, [a, b, c] => [(a + b + c) % 2 ^ 64, (a + b + c) / 2 ^ 64]
  | 2, [a, b, c] => [(a - b - c) % 2 ^ 64, -((a - b - c) / 2 ^ 64)]
  | 3, [a] => [(blen a.toNat : Int)]
  | 10, [a, b, c, d] => [(blen (val4I a b c d).toNat : Int)]
  | 11, [a, b, c, d, n] => [apx (val4I a b c d) n]
  | 12, [a, b, c, d, f, a', b', c', d', g] => w5 (f * val4I a b c d + g * val4I a' b' c' d')
  | _, _ => []
def isW (a : Int) : Prop := 0 ≤ a ∧ a < 2 ^ 64
def isI (a : Int) : Prop := -2 ^ 63 ≤ a ∧ a < 2 ^ 63
def pfN : Nat → List Int → Prop
  | 0, [a, b] => isW a ∧ isW b
  | 1, [a, b, c] => isW a ∧ isW b ∧ 0 ≤ c ∧ c ≤ 1
  | 2, [a, b, c] => isW a ∧ isW b ∧ 0 ≤ c ∧ c ≤ 1
  | 3, [a] => isW a
  | 10, [a, b, c, d] => isW a ∧ isW b ∧ isW c ∧ isW d
  | 11, [a, b, c, d, n] => isW a ∧ isW b ∧ isW c ∧ isW d ∧ 0 ≤ n ∧ n ≤ 256
  | 12, [a, b, c, d, f, a', b', c', d', g] => isW a ∧ isW b ∧ isW c ∧ isW d ∧ isI f ∧ isW a' ∧ isW b' ∧ isW c' ∧ isW d' ∧ isI g
  | _, _ => False
def tmF : Nat → List Int → Bool
  | 0, [a, b, c, d] => decide (val4I a b c d < (pP : Int))
  | _, _ => false
def tmN : Nat → List Int → Prop
  | 0, [a, b, c, d] => isW a ∧ isW b ∧ isW c ∧ isW d
  | _, _ => False
def FD : Dom where
  E := Fp
  word := fun x i => (wordN (mont x) i : Int)
  lit := fun a b c d => unmont (val4 a b c d)
  litOk := okLit
  lit0 := fun a b c d h => by
    obtain ⟨h1, h2, h3, h4, h5⟩ := okLit_spec h
    rw [mont_unmont h5, (wordN_val4 h1 h2 h3 h4).1]
  lit1 := fun a b c d h => by
    obtain ⟨h1, h2, h3, h4, h5⟩ := okLit_spec h
    rw [mont_unmont h5, (wordN_val4 h1 h2 h3 h4).2.1]
  lit2 := fun a b c d h => by
    obtain ⟨h1, h2, h3, h4, h5⟩ := okLit_spec h
    rw [mont_unmont h5, (wordN_val4 h1 h2 h3 h4).2.2.1]
  lit3 := fun a b c d h => by
    obtain ⟨h1, h2, h3, h4, h5⟩ := okLit_spec h
    rw [mont_unmont h5, (wordN_val4 h1 h2 h3 h4).2.2.2]
  bin := fpBin
  un := fpUn
  t1 := fun k x => match k with | 0 => decide (x = 0) | _ => decide (x = 1)
  t2 := fun _ x y => decide (x = y)
  pf := pfF
  pfn := pfN
  tm := tmF
  tmn := tmN
  ef := efF
end Go.Proofs.YtnmkmbjbaagojaaGreatDoor
