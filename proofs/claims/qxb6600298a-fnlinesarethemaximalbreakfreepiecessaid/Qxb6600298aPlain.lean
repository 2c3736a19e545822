/-
  Seat b6600298a: line breaks, plainly: what breakLen and zzLongestBreakAt reckon, and that they agree. No program is looked at.
-/
import Derived.Test.Qxb6600298aRows
import Derived.WalkKit
namespace Go.Proofs.Qxb6600298a
open Go.RowKit
set_option linter.unusedVariables false
set_option linter.unusedSimpArgs false

/-- The k-th byte. -/
def bt (zs : List Int) (k : Nat) : Int := zs.getD k 0

/-- What breakLen reckons. -/
def brk (zs : List Int) (i : Nat) : Nat :=
  if bt zs i = 10 then 1
  else if bt zs i = 13 then (if i + 1 < zs.length ∧ bt zs (i + 1) = 10 then 2 else 1)
  else if bt zs i = 194 then (if i + 1 < zs.length ∧ bt zs (i + 1) = 133 then 2 else 0)
  else if bt zs i = 226 then (if i + 2 < zs.length ∧ bt zs (i + 1) = 128 ∧ (bt zs (i + 2) = 168 ∨ bt zs (i + 2) = 169) then 3 else 0)
  else 0

/-- The six texts. -/
def text6 : Nat → List UInt8
  | 0 => [10]
  | 1 => [13]
  | 2 => [13, 10]
  | 3 => [194, 133]
  | 4 => [226, 128, 168]
  | _ => [226, 128, 169]

/-- The j-th byte of a text. -/
def tb (p : List UInt8) (j : Nat) : Int := ((p.getD j 0).toNat : Int)

/-- Does p stand in zs from i on, whole? -/
def HasAt (zs : List Int) (i : Nat) (p : List UInt8) : Prop := i + p.length ≤ zs.length ∧ ∀ j, j < p.length → bt zs (i + j) = tb p j
def hasB (zs : List Int) (i : Nat) (p : List UInt8) : Bool := decide (i + p.length ≤ zs.length) && (List.range p.length).all (fun j => decide (bt zs (i + j) = tb p j))

theorem hasB_iff (zs : List Int) (i : Nat) (p : List UInt8) : hasB zs i p = true ↔ HasAt zs i p := by
  unfold hasB HasAt
  simp [List.all_eq_true]

theorem hasB_false {zs : List Int} {i : Nat} {p : List UInt8} (h : ¬ HasAt zs i p) : hasB zs i p = false := by
  rw [← Bool.not_eq_true, hasB_iff]; exact h

/-- The longest of the first k texts that stands at i. -/
def lngTo (zs : List Int) (i : Nat) : Nat → Nat
  | 0 => 0
  | k + 1 => if lngTo zs i k < (text6 k).length ∧ hasB zs i (text6 k) = true then (text6 k).length else lngTo zs i k
def lng (zs : List Int) (i : Nat) : Nat := lngTo zs i 6

theorem has0 (zs : List Int) (i : Nat) : hasB zs i (text6 0) = decide (i + 1 ≤ zs.length ∧ bt zs i = 10) := by
  rw [Bool.eq_iff_iff, hasB_iff]
  unfold HasAt
  simp only [text6, List.length_cons, List.length_nil, decide_eq_true_eq]
  constructor
  · rintro ⟨h1, h2⟩
    exact ⟨by omega, h2 0 (by omega)⟩
  · rintro ⟨h1, h2⟩
    refine ⟨by omega, fun j hj => ?_⟩
    match j, hj with
    | 0, _ => exact h2

theorem has1 (zs : List Int) (i : Nat) : hasB zs i (text6 1) = decide (i + 1 ≤ zs.length ∧ bt zs i = 13) := by
  rw [Bool.eq_iff_iff, hasB_iff]
  unfold HasAt
  simp only [text6, List.length_cons, List.length_nil, decide_eq_true_eq]
  constructor
  · rintro ⟨h1, h2⟩
    exact ⟨by omega, h2 0 (by omega)⟩
  · rintro ⟨h1, h2⟩
    refine ⟨by omega, fun j hj => ?_⟩
    match j, hj with
    | 0, _ => exact h2

theorem has2 (zs : List Int) (i : Nat) : hasB zs i (text6 2) = decide (i + 2 ≤ zs.length ∧ bt zs i = 13 ∧ bt zs (i + 1) = 10) := by
  rw [Bool.eq_iff_iff, hasB_iff]
  unfold HasAt
  simp only [text6, List.length_cons, List.length_nil, decide_eq_true_eq]
  constructor
  · rintro ⟨h1, h2⟩
    exact ⟨by omega, h2 0 (by omega), h2 1 (by omega)⟩
  · rintro ⟨h1, h2, h3⟩
    refine ⟨by omega, fun j hj => ?_⟩
    match j, hj with
    | 0, _ => exact h2
    | 1, _ => exact h3

theorem has3 (zs : List Int) (i : Nat) : hasB zs i (text6 3) = decide (i + 2 ≤ zs.length ∧ bt zs i = 194 ∧ bt zs (i + 1) = 133) := by
  rw [Bool.eq_iff_iff, hasB_iff]
  unfold HasAt
  simp only [text6, List.length_cons, List.length_nil, decide_eq_true_eq]
  constructor
  · rintro ⟨h1, h2⟩
    exact ⟨by omega, h2 0 (by omega), h2 1 (by omega)⟩
  · rintro ⟨h1, h2, h3⟩
    refine ⟨by omega, fun j hj => ?_⟩
    match j, hj with
    | 0, _ => exact h2
    | 1, _ => exact h3

theorem has4 (zs : List Int) (i : Nat) : hasB zs i (text6 4) = decide (i + 3 ≤ zs.length ∧ bt zs i = 226 ∧ bt zs (i + 1) = 128 ∧ bt zs (i + 2) = 168) := by
  rw [Bool.eq_iff_iff, hasB_iff]
  unfold HasAt
  simp only [text6, List.length_cons, List.length_nil, decide_eq_true_eq]
  constructor
  · rintro ⟨h1, h2⟩
    exact ⟨by omega, h2 0 (by omega), h2 1 (by omega), h2 2 (by omega)⟩
  · rintro ⟨h1, h2, h3, h4⟩
    refine ⟨by omega, fun j hj => ?_⟩
    match j, hj with
    | 0, _ => exact h2
    | 1, _ => exact h3
    | 2, _ => exact h4

theorem has5 (zs : List Int) (i : Nat) : hasB zs i (text6 5) = decide (i + 3 ≤ zs.length ∧ bt zs i = 226 ∧ bt zs (i + 1) = 128 ∧ bt zs (i + 2) = 169) := by
  rw [Bool.eq_iff_iff, hasB_iff]
  unfold HasAt
  simp only [text6, List.length_cons, List.length_nil, decide_eq_true_eq]
  constructor
  · rintro ⟨h1, h2⟩
    exact ⟨by omega, h2 0 (by omega), h2 1 (by omega), h2 2 (by omega)⟩
  · rintro ⟨h1, h2, h3, h4⟩
    refine ⟨by omega, fun j hj => ?_⟩
    match j, hj with
    | 0, _ => exact h2
    | 1, _ => exact h3
    | 2, _ => exact h4

/-- THE PLAIN LAW. -/
theorem brk_eq_lng {zs : List Int} {i : Nat} (hi : i < zs.length) : brk zs i = lng zs i := by
  unfold lng
  simp only [lngTo, has0, has1, has2, has3, has4, has5, decide_eq_true_eq]
  simp only [text6, List.length_cons, List.length_nil]
  unfold brk
  have h1 : i + 1 ≤ zs.length := by omega
  by_cases e1 : bt zs i = 10
  · simp [e1, h1]
  · by_cases e2 : bt zs i = 13
    · by_cases e3 : i + 1 < zs.length
      · have e3' : i + 2 ≤ zs.length := by omega
        by_cases e4 : bt zs (i + 1) = 10 <;> simp [e1, e2, e3, e3', e4, h1]
      · have e3' : ¬ i + 2 ≤ zs.length := by omega
        simp [e1, e2, e3, e3', h1]
    · by_cases e5 : bt zs i = 194
      · by_cases e3 : i + 1 < zs.length
        · have e3' : i + 2 ≤ zs.length := by omega
          by_cases e4 : bt zs (i + 1) = 133 <;> simp [e1, e2, e5, e3, e3', e4, h1]
        · have e3' : ¬ i + 2 ≤ zs.length := by omega
          simp [e1, e2, e5, e3, e3', h1]
      · by_cases e6 : bt zs i = 226
        · by_cases e3 : i + 2 < zs.length
          · have e3' : i + 3 ≤ zs.length := by omega
            by_cases e4 : bt zs (i + 1) = 128
            · by_cases e7 : bt zs (i + 2) = 168
              · simp [e1, e2, e5, e6, e3, e3', e4, e7, h1]
              · by_cases e8 : bt zs (i + 2) = 169 <;> simp [e1, e2, e5, e6, e3, e3', e4, e7, e8, h1]
            · simp [e1, e2, e5, e6, e3, e3', e4, h1]
          · have e3' : ¬ i + 3 ≤ zs.length := by omega
            simp [e1, e2, e5, e6, e3, e3', h1]
        · simp [e1, e2, e5, e6, h1]

theorem brk_le {zs : List Int} {i : Nat} (hi : i < zs.length) : i + brk zs i ≤ zs.length := by
  unfold brk
  split
  · omega
  · split
    · split <;> omega
    · split
      · split <;> omega
      · split
        · split <;> omega
        · omega

theorem brk_le3 (zs : List Int) (i : Nat) : brk zs i ≤ 3 := by
  unfold brk
  split
  · omega
  · split
    · split <;> omega
    · split
      · split <;> omega
      · split
        · split <;> omega
        · omega

end Go.Proofs.Qxb6600298a
