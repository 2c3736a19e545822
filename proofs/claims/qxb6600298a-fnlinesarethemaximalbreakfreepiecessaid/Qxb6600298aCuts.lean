/-
  Seat b6600298a: the pieces between line breaks, plainly. No program is looked at.
-/
import Derived.Test.Qxb6600298aPlain
namespace Go.Proofs.Qxb6600298a
open Go.RowKit
set_option linter.unusedVariables false
set_option linter.unusedSimpArgs false

/-- The i-th piece: where it begins, where it ends. -/
def pc (es : List (Nat × Nat)) (i : Nat) : Nat × Nat := es.getD i (0, 0)
/-- Where the i-th piece begins; where the next one begins, behind the last. -/
def st (es : List (Nat × Nat)) (nxt i : Nat) : Nat := if i < es.length then (pc es i).1 else nxt

/-- A piece in which no break begins. -/
def PieceOk (zs : List Int) (p : Nat × Nat) : Prop := p.1 ≤ p.2 ∧ p.2 ≤ zs.length ∧ ∀ q, p.1 ≤ q → q < p.2 → brk zs q = 0

/-- Pieces, a break behind each; the next begins at nxt. -/
def Chain (zs : List Int) (es : List (Nat × Nat)) (nxt : Nat) : Prop :=
  st es nxt 0 = 0 ∧ nxt ≤ zs.length ∧ es.length ≤ nxt ∧ ∀ i, i < es.length → PieceOk zs (pc es i) ∧ (pc es i).2 < zs.length ∧ 0 < brk zs (pc es i).2 ∧ st es nxt (i + 1) = (pc es i).2 + brk zs (pc es i).2

theorem Chain.nil (zs : List Int) : Chain zs [] 0 := ⟨rfl, Nat.zero_le _, Nat.le_refl _, fun i hi => by simp at hi⟩

theorem pc_old {es : List (Nat × Nat)} {p : Nat × Nat} {i : Nat} (h : i < es.length) : pc (es ++ [p]) i = pc es i := by
  unfold pc
  rw [List.getD, List.getD, List.getElem?_append_left h]
theorem pc_new {es : List (Nat × Nat)} {p : Nat × Nat} : pc (es ++ [p]) es.length = p := by
  unfold pc
  rw [List.getD, List.getElem?_append_right (Nat.le_refl _), Nat.sub_self]
  rfl

theorem Chain.snoc {zs : List Int} {es : List (Nat × Nat)} {s e : Nat} (h : Chain zs es s) (hp : PieceOk zs (s, e)) (he : e < zs.length) (hb : 0 < brk zs e) : Chain zs (es ++ [(s, e)]) (e + brk zs e) := by
  have hlen : (es ++ [(s, e)]).length = es.length + 1 := by simp
  have hse : s ≤ e := hp.1
  refine ⟨?_, brk_le he, by have := h.2.2.1; omega, fun i hi => ?_⟩
  · unfold st
    rw [if_pos (by omega)]
    rcases Nat.eq_zero_or_pos es.length with h0 | h0
    · have := h.1
      unfold st at this
      rw [if_neg (by omega)] at this
      have e2 := pc_new (es := es) (p := (s, e))
      rw [h0] at e2
      rw [e2]
      exact this
    · have := h.1
      unfold st at this
      rw [if_pos h0] at this
      rw [pc_old h0]
      exact this
  · rcases Nat.lt_or_ge i es.length with h1 | h1
    · obtain ⟨a1, a2, a3, a4⟩ := h.2.2.2 i h1
      rw [pc_old h1]
      refine ⟨a1, a2, a3, ?_⟩
      rw [← a4]
      unfold st
      rw [if_pos (by omega)]
      rcases Nat.lt_or_ge (i + 1) es.length with h2 | h2
      · rw [if_pos h2, pc_old h2]
      · obtain h3 : i + 1 = es.length := by omega
        rw [if_neg (by omega), h3, pc_new]
    · obtain rfl : i = es.length := by omega
      rw [pc_new]
      refine ⟨hp, he, hb, ?_⟩
      unfold st
      rw [if_neg (by omega)]

/-- All the pieces. -/
def LinesOk (zs : List Int) (fs : List (Nat × Nat)) : Prop :=
  0 < fs.length ∧ fs.length ≤ zs.length + 1 ∧ (pc fs 0).1 = 0 ∧ (∀ i, i < fs.length → PieceOk zs (pc fs i)) ∧
    (∀ i, i + 1 < fs.length → (pc fs i).2 < zs.length ∧ 0 < brk zs (pc fs i).2 ∧ (pc fs (i + 1)).1 = (pc fs i).2 + brk zs (pc fs i).2) ∧ (∀ i, i + 1 = fs.length → (pc fs i).2 = zs.length)

theorem Chain.done {zs : List Int} {es : List (Nat × Nat)} {s : Nat} (h : Chain zs es s) (hp : PieceOk zs (s, zs.length)) : LinesOk zs (es ++ [(s, zs.length)]) := by
  have hlen : (es ++ [(s, zs.length)]).length = es.length + 1 := by simp
  obtain ⟨h1, h2, h3, h4⟩ := h
  refine ⟨by omega, by omega, ?_, fun i hi => ?_, fun i hi => ?_, fun i hi => ?_⟩
  · unfold st at h1
    rcases Nat.eq_zero_or_pos es.length with h0 | h0
    · rw [if_neg (by omega)] at h1
      have e2 := pc_new (es := es) (p := (s, zs.length))
      rw [h0] at e2
      rw [e2]
      exact h1
    · rw [if_pos h0] at h1
      rw [pc_old h0]
      exact h1
  · rcases Nat.lt_or_ge i es.length with h5 | h5
    · rw [pc_old h5]; exact (h4 i h5).1
    · obtain rfl : i = es.length := by omega
      rw [pc_new]; exact hp
  · have h5 : i < es.length := by omega
    obtain ⟨a1, a2, a3, a4⟩ := h4 i h5
    rw [pc_old h5]
    refine ⟨a2, a3, ?_⟩
    rw [← a4]
    unfold st
    rcases Nat.lt_or_ge (i + 1) es.length with h6 | h6
    · rw [if_pos h6, pc_old h6]
    · obtain h7 : i + 1 = es.length := by omega
      rw [if_neg (by omega), h7, pc_new]
  · obtain rfl : i = es.length := by omega
    rw [pc_new]

/-- The bytes of a piece. -/
def sub (zs : List Int) (p : Nat × Nat) : List Int := (zs.drop p.1).take (p.2 - p.1)

theorem sub_len {zs : List Int} {p : Nat × Nat} (h : PieceOk zs p) : (sub zs p).length = p.2 - p.1 := by
  have := h.1; have := h.2.1
  unfold sub
  rw [List.length_take, List.length_drop]
  omega

theorem bt_sub {zs : List Int} {p : Nat × Nat} (h : PieceOk zs p) {j : Nat} (hj : j < p.2 - p.1) : bt (sub zs p) j = bt zs (p.1 + j) := by
  have := h.1; have := h.2.1
  unfold bt sub
  rw [List.getD, List.getD, List.getElem?_take_of_lt hj, List.getElem?_drop]

theorem lngTo_zero {zs : List Int} {i : Nat} : ∀ k, (∀ t, t < k → hasB zs i (text6 t) = false) → lngTo zs i k = 0
  | 0, _ => rfl
  | k + 1, h => by
    have ih := lngTo_zero (zs := zs) (i := i) k (fun t ht => h t (by omega))
    simp only [lngTo]
    rw [ih, h k (by omega)]
    simp

theorem lngTo_pos {zs : List Int} {i : Nat} : ∀ k t, t < k → hasB zs i (text6 t) = true → 0 < lngTo zs i k
  | 0, t, h, _ => by omega
  | k + 1, t, h, hb => by
    have hl : 0 < (text6 k).length := by
      match k with
      | 0 => simp [text6]
      | 1 => simp [text6]
      | 2 => simp [text6]
      | 3 => simp [text6]
      | 4 => simp [text6]
      | k + 5 => simp [text6]
    simp only [lngTo]
    split
    · exact hl
    · rename_i hn
      rcases Nat.lt_or_ge t k with h1 | h1
      · exact lngTo_pos k t h1 hb
      · obtain rfl : t = k := by omega
        have : ¬ lngTo zs i t < (text6 t).length := fun hh => hn ⟨hh, hb⟩
        omega

/-- No break stands in a piece, whole. -/
theorem lng_sub {zs : List Int} {p : Nat × Nat} (h : PieceOk zs p) {j : Nat} (hj : j < p.2 - p.1) : lng (sub zs p) j = 0 := by
  have h1 := h.1; have h2 := h.2.1
  have hz : brk zs (p.1 + j) = 0 := h.2.2 (p.1 + j) (by omega) (by omega)
  rw [brk_eq_lng (by omega)] at hz
  refine lngTo_zero 6 (fun t ht => hasB_false (fun hh => ?_))
  have hlen := sub_len h
  have : HasAt zs (p.1 + j) (text6 t) := by
    refine ⟨by have := hh.1; omega, fun q hq => ?_⟩
    have h5 := hh.1
    rw [← hh.2 q hq, bt_sub h (by omega), Nat.add_assoc]
  have := lngTo_pos 6 t ht ((hasB_iff _ _ _).2 this)
  unfold lng at hz
  omega

end Go.Proofs.Qxb6600298a
