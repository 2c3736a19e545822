/-
  Seat b6000395a: scripts of pack calls: the journals met, the keys; the plain law. No program is looked at.
-/
import Derived.Test.Qxb6000395aPackPlain
namespace Go.Proofs.Qxb6000395a
open Go.RowKit
set_option linter.unusedVariables false
set_option linter.unusedSimpArgs false

/-- The journals met in pairs that packed, once k pairs have been packed. -/
def jst (js ns : List ByteArray) : Nat → List ByteArray
  | 0 => []
  | k + 1 => addJ (jst js ns k) (gs js k) (gs ns k)

def okAt (js ns : List ByteArray) (k : Nat) : Bool := packs (jst js ns k) (gs js k) (gs ns k)
def keyAt (js ns : List ByteArray) (k : Nat) : Nat := keyFor (jst js ns k) (gs js k) (gs ns k)

theorem idx_addJ {J : List ByteArray} {j n c : ByteArray} (h : idx J c < J.length) : idx (addJ J j n) c = idx J c := by
  unfold addJ
  split
  · exact idx_addC h
  · rfl

theorem addJ_len (J : List ByteArray) (j n : ByteArray) : J.length ≤ (addJ J j n).length ∧ (addJ J j n).length ≤ J.length + 1 := by
  unfold addJ
  split
  · exact ⟨(addC_len J j).2, (addC_len J j).1⟩
  · omega

theorem addJ_1024 {J : List ByteArray} (j n : ByteArray) (h : J.length ≤ 1024) : (addJ J j n).length ≤ 1024 := by
  unfold addJ
  split
  · rename_i hp
    unfold packs at hp
    unfold addC
    split
    · exact h
    · rename_i hi
      simp only [Bool.and_eq_true, Bool.or_eq_true, decide_eq_true_eq, Bool.not_eq_true', decide_eq_false_iff_not] at hp
      rcases hp.2 with h1 | h1
      · exact absurd h1 hi
      · simp; omega
  · exact h

theorem jst_1024 (js ns : List ByteArray) : ∀ k, (jst js ns k).length ≤ 1024
  | 0 => by simp [jst]
  | k + 1 => addJ_1024 _ _ (jst_1024 js ns k)

/-- Where the i-th pair packs, its journal stands at one place from then on. -/
theorem jst_place {js ns : List ByteArray} {i : Nat} (h : okAt js ns i = true) : ∀ d, idx (jst js ns (i + 1 + d)) (gs js i) = idx (jst js ns i) (gs js i) ∧ idx (jst js ns i) (gs js i) < (jst js ns (i + 1 + d)).length
  | 0 => by
    have e : jst js ns (i + 1 + 0) = addC (jst js ns i) (gs js i) := by
      show addJ (jst js ns i) (gs js i) (gs ns i) = _
      unfold addJ
      exact if_pos h
    rw [e]
    have := idx_addC_self (jst js ns i) (gs js i)
    exact this
  | d + 1 => by
    have ih := jst_place h d
    have e : jst js ns (i + 1 + (d + 1)) = addJ (jst js ns (i + 1 + d)) (gs js (i + 1 + d)) (gs ns (i + 1 + d)) := rfl
    have h1 : idx (jst js ns (i + 1 + d)) (gs js i) < (jst js ns (i + 1 + d)).length := by rw [ih.1]; exact ih.2
    rw [e, idx_addJ h1]
    have := (addJ_len (jst js ns (i + 1 + d)) (gs js (i + 1 + d)) (gs ns (i + 1 + d))).1
    exact ⟨ih.1, by omega⟩

theorem idx_inj {J : List ByteArray} {a b : ByteArray} (ha : idx J a < J.length) (h : idx J a = idx J b) : a = b := by
  have h1 : J[idx J a]'ha = a := of_decide_eq_true (List.findIdx_getElem (p := fun x => decide (x = a)) (w := ha))
  have hb : idx J b < J.length := by omega
  have h2 : J[idx J b]'hb = b := of_decide_eq_true (List.findIdx_getElem (p := fun x => decide (x = b)) (w := hb))
  rw [← h1, ← h2]
  congr 1

theorem digs_of_ok {js ns : List ByteArray} {i : Nat} (h : okAt js ns i = true) : Digs (gs ns i) := by
  unfold okAt packs at h
  simp only [Bool.and_eq_true] at h
  exact (digsB_iff _).1 h.1

theorem keyAt_eq {js ns : List ByteArray} {i : Nat} (h : okAt js ns i = true) : keyAt js ns i = keyOf3 (idx (jst js ns i) (gs js i)) (gs ns i).size (valTo (gs ns i) (gs ns i).size) := by
  unfold keyAt keyFor
  exact if_pos h

/-- THE PLAIN LAW: two pairs that both pack get the same key just where they are the same pair. -/
theorem keys_law {js ns : List ByteArray} {i j : Nat} (hij : i < j) (hi : okAt js ns i = true) (hj : okAt js ns j = true) :
    keyAt js ns i = keyAt js ns j ↔ gs js i = gs js j ∧ gs ns i = gs ns j := by
  have pi := jst_place hi (j - i)
  rw [show i + 1 + (j - i) = j + 1 from by omega] at pi
  have pj := jst_place hj 0
  rw [Nat.add_zero] at pj
  have di := digs_of_ok hi
  have dj := digs_of_ok hj
  rw [keyAt_eq hi, keyAt_eq hj, ← pi.1, ← pj.1]
  have vi := valTo_small (s := gs ns i) di.2.1 di.2.2
  have vj := valTo_small (s := gs ns j) dj.2.1 dj.2.2
  constructor
  · intro h
    obtain ⟨h1, h2, h3⟩ := keyOf3_inj (by have := di.2.1; omega) (by have := dj.2.1; omega) vi vj h
    exact ⟨idx_inj (by rw [pi.1]; exact pi.2) h1, digs_inj di dj h2 h3⟩
  · rintro ⟨h1, h2⟩
    rw [h1, h2]

end Go.Proofs.Qxb6000395a
