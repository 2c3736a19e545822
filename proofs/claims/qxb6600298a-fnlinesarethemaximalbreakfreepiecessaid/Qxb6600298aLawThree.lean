/-
  Seat b6600298a: FnBreakLenIsTheLongestBreakAtI: the walk.
-/
import Derived.Test.Qxb6600298aLongest
namespace Go.Proofs.Qxb6600298a
open Go.RowKit
set_option linter.unusedVariables false
set_option linter.unusedSimpArgs false

/-- True is returned, and nothing that was there has turned. -/
def TruePost (w : World) (e : Ending) (w' : World) : Prop := e = .returned (.bool true) ∧ Below w.heap.size w w'

def BoolPost (w : World) (e : Ending) (w' : World) : Prop := (∃ r : Bool, e = .returned (.bool r)) ∧ w = w'

set_option maxHeartbeats 400000 in
theorem bytes8 (a : Option Addr) (n cap : Nat) (i : Int) (w : World) (hl : n ≤ maxLen) : Calls Try.prog 8 #[.slice a n cap, .int .i64 i] w (BoolPost w) := by
  unfold maxLen at hl
  go_enter Try.func8, Try.ntmps8
  go_wp2
  all_goals go_ret
  all_goals exact ⟨⟨_, rfl⟩, rfl⟩

theorem below_drewN {B : Nat} {a w : World} (h : Below B a w) (n : Nat) : Below B a (w.drewN n) := ⟨h.os, h.tape, h.output, h.size, h.block⟩

set_option maxHeartbeats 1000000 in
theorem lawT (a : Option Addr) (zs : List Int) (cap : Nat) (i : Int) (w : World) (h : BytesAt w a zs) (hl : zs.length ≤ maxLen) :
    Calls Try.prog 3 #[.slice a zs.length cap, .int .i64 i] w (TruePost w) := by
  go_enter Try.func3, Try.ntmps3
  go_wp2_with fail
  refine (bytes8 a zs.length cap i _ hl).mono ?_
  rintro e w' ⟨⟨r, rfl⟩, rfl⟩
  unfold maxLen at hl
  cases r
  · go_wp2
    go_ret
    exact ⟨rfl, Below.refl _ _⟩
  · by_cases h6 : zs.length ≤ 65536
    · by_cases h0 : i < 0
      · have hd : decide (i < 0) = true := decide_eq_true h0
        go_wp2
        all_goals go_ret
        all_goals exact ⟨rfl, Below.refl _ _⟩
      · by_cases h1 : (zs.length : Int) ≤ i
        · go_wp2
          all_goals go_ret
          all_goals exact ⟨rfl, Below.refl _ _⟩
        · obtain ⟨k, rfl⟩ := Int.eq_ofNat_of_zero_le (Int.not_lt.1 h0)
          have hk : k < zs.length := by omega
          have HE : Hid (brk zs k = lng zs k) := brk_eq_lng hk
          go_wp2_with fail
          refine (clone9 a zs cap _ h (by omega)).mono ?_
          rintro e wc ⟨a', rfl, hb, hown⟩
          have hB := bytesAt_of hown
          clear hown
          go_wp2_with fail
          refine (brk10 a' zs zs.length k _ hB hk (by omega)).mono ?_
          rintro e w' ⟨rfl, rfl⟩
          go_wp2_with fail
          refine (lng11 a' zs zs.length k _ hB (by omega) (by omega)).mono ?_
          rintro e w' ⟨rfl, n, rfl⟩
          have ht : ((brk zs k : Int) == (lng zs k : Int)) = true := beq_iff_eq.2 (by rw [HE.out])
          go_wp2
          go_ret
          exact ⟨by simp, below_drewN hb n⟩
    · go_wp2
      go_ret
      exact ⟨rfl, Below.refl _ _⟩

end Go.Proofs.Qxb6600298a
