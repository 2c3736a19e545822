/-
  Seat b6000395a: the plain mathematics of pack: digits, their value, the key. No program is looked at.
-/
import Derived.Test.Qxb6000395aRank
import Derived.Laws.BitsAllLaws
namespace Go.Proofs.Qxb6000395a
open Go.RowKit
set_option linter.unusedVariables false
set_option linter.unusedSimpArgs false

/-- The k-th byte of a string. -/
def byteAt (s : ByteArray) (k : Nat) : Nat := (s.data.toList.getD k 0).toNat
/-- The value of the first k bytes, read as decimal digits. -/
def valTo (s : ByteArray) : Nat → Nat
  | 0 => 0
  | k + 1 => valTo s k * 10 + (byteAt s k - 48)

def isDig (s : ByteArray) (k : Nat) : Prop := 48 ≤ byteAt s k ∧ byteAt s k ≤ 57

/-- 1 to 15 digits. -/
def Digs (s : ByteArray) : Prop := 1 ≤ s.size ∧ s.size ≤ 15 ∧ ∀ k, k < s.size → isDig s k

theorem byteAt_lt (s : ByteArray) (k : Nat) : byteAt s k < 256 := by unfold byteAt; exact UInt8.toNat_lt _

theorem valTo_lt (s : ByteArray) : ∀ k, (∀ j, j < k → isDig s j) → valTo s k < 10 ^ k
  | 0, _ => by simp [valTo]
  | k + 1, h => by
    have := valTo_lt s k (fun j hj => h j (by omega))
    have h2 := h k (by omega)
    unfold isDig at h2
    simp only [valTo, Nat.pow_succ]
    omega

theorem valTo_small {s : ByteArray} {k : Nat} (hk : k ≤ 15) (h : ∀ j, j < k → isDig s j) : valTo s k < 1000000000000000 := by
  have h1 := valTo_lt s k h
  have h2 : 10 ^ k ≤ 10 ^ 15 := Nat.pow_le_pow_right (by decide) hk
  have h3 : (10 : Nat) ^ 15 = 1000000000000000 := by decide
  omega

/-- The key: ten bits of journal, four of length, fifty of value. -/
def keyOf3 (j n v : Nat) : Nat := j * 18014398509481984 + n * 1125899906842624 + v

theorem keyOf3_inj {j n v j' n' v' : Nat} (hn : n < 16) (hn' : n' < 16) (hv : v < 1000000000000000) (hv' : v' < 1000000000000000) (h : keyOf3 j n v = keyOf3 j' n' v') : j = j' ∧ n = n' ∧ v = v' := by
  unfold keyOf3 at h
  omega

theorem keyOf3_lt {j n v : Nat} (hj : j < 1024) (hn : n < 16) (hv : v < 1000000000000000) : keyOf3 j n v < 18446744073709551616 := by
  unfold keyOf3
  omega

/-- What the two shifts and the two ors make. -/
theorem key_bits {j n v : Nat} (hj : j < 1024) (hn : n < 16) (hv : v < 1000000000000000) :
    bits .or .u64 (bits .or .u64 (IntKind.u64.wrap ((j : Int) * 18014398509481984)) (IntKind.u64.wrap ((n : Int) * 1125899906842624))) (v : Int) = ((keyOf3 j n v : Nat) : Int) := by
  have e1 : IntKind.u64.wrap ((j : Int) * 18014398509481984) = ((j * 18014398509481984 : Nat) : Int) := by
    rw [IntKind.wrap_u64]; omega
  have e2 : IntKind.u64.wrap ((n : Int) * 1125899906842624) = ((n * 1125899906842624 : Nat) : Int) := by
    rw [IntKind.wrap_u64]; omega
  rw [e1, e2, u64_or_nat _ _ (by omega) (by omega)]
  have e3 : j * 18014398509481984 ||| n * 1125899906842624 = j * 18014398509481984 + n * 1125899906842624 := nat_join 54 _ _ (by omega) (by omega)
  rw [e3, u64_or_nat _ _ (by omega) (by omega)]
  have e4 : (j * 18014398509481984 + n * 1125899906842624) ||| v = j * 18014398509481984 + n * 1125899906842624 + v := nat_join 50 _ _ (by omega) (by omega)
  rw [e4]
  rfl

theorem key_bits2 {j n v : Nat} (hj : j < 1024) (hn : n < 16) (hv : v < 1000000000000000) :
    bits .or .u64 (bits .or .u64 ((j : Int) * 18014398509481984) ((n : Int) * 1125899906842624)) (v : Int) = ((keyOf3 j n v : Nat) : Int) := by
  have h := key_bits hj hn hv
  have e1 : IntKind.u64.wrap ((j : Int) * 18014398509481984) = (j : Int) * 18014398509481984 := by
    rw [IntKind.wrap_u64]; omega
  have e2 : IntKind.u64.wrap ((n : Int) * 1125899906842624) = (n : Int) * 1125899906842624 := by
    rw [IntKind.wrap_u64]; omega
  rw [e1, e2] at h
  exact h

/-! ### A number of digits is its length and its value -/

theorem bytes_ext {a b : ByteArray} (hs : a.size = b.size) (h : ∀ k, k < a.size → byteAt a k = byteAt b k) : a = b := by
  apply ByteArray.ext
  apply Array.toList_inj.1
  have ha : a.data.toList.length = a.size := by rw [Array.length_toList]; rfl
  have hb : b.data.toList.length = b.size := by rw [Array.length_toList]; rfl
  apply List.ext_getElem
  · omega
  · intro i h1 h2
    have := h i (by omega)
    unfold byteAt at this
    simp only [List.getD, List.getElem?_eq_getElem h1, List.getElem?_eq_getElem h2, Option.getD_some] at this
    exact UInt8.toNat_inj.1 this

theorem valTo_inj (a b : ByteArray) : ∀ k, (∀ j, j < k → isDig a j) → (∀ j, j < k → isDig b j) → valTo a k = valTo b k → ∀ j, j < k → byteAt a j = byteAt b j
  | 0, _, _, _, j, hj => by omega
  | k + 1, ha, hb, h, j, hj => by
    have h1 := ha k (by omega)
    have h2 := hb k (by omega)
    unfold isDig at h1 h2
    simp only [valTo] at h
    rcases Nat.lt_or_ge j k with h3 | h3
    · exact valTo_inj a b k (fun i hi => ha i (by omega)) (fun i hi => hb i (by omega)) (by omega) j h3
    · obtain rfl : j = k := by omega
      omega

theorem digs_inj {a b : ByteArray} (ha : Digs a) (hb : Digs b) (hs : a.size = b.size) (h : valTo a a.size = valTo b b.size) : a = b := by
  refine bytes_ext hs (valTo_inj a b a.size ha.2.2 (fun j hj => hb.2.2 j (by omega)) ?_)
  rw [h, hs]

/-! ### As Bools -/

def digsB (s : ByteArray) : Bool := decide (1 ≤ s.size) && decide (s.size ≤ 15) && (List.range s.size).all (fun k => decide (48 ≤ byteAt s k) && decide (byteAt s k ≤ 57))

theorem digsB_iff (s : ByteArray) : digsB s = true ↔ Digs s := by
  unfold digsB Digs isDig
  simp [List.all_eq_true, and_assoc]

theorem digsB_false {s : ByteArray} (h : ¬ Digs s) : digsB s = false := by
  rw [← Bool.not_eq_true, digsB_iff]; exact h

/-- Does the pair pack, where the journals J have been met? -/
def packs (J : List ByteArray) (j n : ByteArray) : Bool := digsB n && (decide (idx J j < J.length) || !decide (J.length = 1024))
/-- The journals behind a call of pack. -/
def addJ (J : List ByteArray) (j n : ByteArray) : List ByteArray := if packs J j n then addC J j else J
/-- The key that pack returns. -/
def keyFor (J : List ByteArray) (j n : ByteArray) : Nat := if packs J j n then keyOf3 (idx J j) n.size (valTo n n.size) else 0

end Go.Proofs.Qxb6000395a
