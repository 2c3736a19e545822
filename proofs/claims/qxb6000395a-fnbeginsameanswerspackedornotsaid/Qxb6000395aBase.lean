/-
  Seat b6000395a: the shared ground: slices of strings that came in or were made, their lengths counted, cloned.
-/
import Derived.Test.Qxb6000395aRows
import Derived.WalkKit
import Derived.ProofKit
import Derived.OpenShut
import Derived.ShutString
import Derived.ChangeOld
import Derived.Below
import Derived.BigQuiet
import Derived.Deep.QuietTactic
import Derived.WalkSpells
import Derived.Deep.OwnRows
namespace Go.Proofs.Qxb6000395a
open Go.ChangeShapes Go.WideShapes Go.ChangeAt Go.RowKit
set_option linter.unusedVariables false

/-- The k-th of a list of strings. -/
def gs (ss : List ByteArray) (k : Nat) : ByteArray := ss.getD k ByteArray.empty

/-- The strings ss lie in memory from the address a on. -/
def StrsAt (w : World) (a : Option Addr) (ss : List ByteArray) : Prop :=
  ∀ k, k < ss.length → ∃ b off, a = some ⟨b, off, none⟩ ∧ b < w.heap.size ∧ w.cell? ⟨b, off + k, none⟩ = some (.string (gs ss k))

theorem StrsAt.below {w w' : World} {a : Option Addr} {ss : List ByteArray} (h : StrsAt w a ss) (hb : Below w.heap.size w w') : StrsAt w' a ss := fun k hk => by
  obtain ⟨b, off, e, hlt, hc⟩ := h k hk
  exact ⟨b, off, e, Nat.lt_of_lt_of_le hlt hb.size, by rw [hb.cell (p := ⟨b, off + k, none⟩) hlt]; exact hc⟩

/-- Some int is returned, the world is as it was. -/
def RetInt (w : World) (e : Ending) (w' : World) : Prop := (∃ x : Int, e = .returned (.int .i64 x)) ∧ w = w'

set_option maxHeartbeats 400000 in
/-- zzStringsBytes_b1: it returns some int, and changes nothing. -/
theorem strBytes (a : Option Addr) (ss : List ByteArray) (cap : Nat) (w : World) (h : StrsAt w a ss) (hl : ss.length ≤ maxLen) :
    Calls Try.prog 10 #[.slice a ss.length cap] w (RetInt w) := by
  unfold maxLen at hl
  go_enter Try.func10, Try.ntmps10
  go_wp2
  go_loop [3, 4] (fun t i => ∃ (k : Nat) (x : Int), k ≤ ss.length ∧ i = .int .i64 k ∧ t = .int .i64 x) (fun _ i => ss.length - (intOf i).toNat)
  case atStart => exact ⟨0, _, Nat.zero_le _, rfl, rfl⟩
  case round =>
    obtain ⟨k, x, hk, rfl, rfl⟩ := hrel
    by_cases hlt : k < ss.length
    · obtain ⟨b, off, rfl, _, hc⟩ := h k hlt
      go_wp2
      go_round
      case rel => exact ⟨k + 1, _, by omega, by go_num, rfl⟩
      case measure => simp [intOf]; omega
    · go_wp2
      go_ret
      exact ⟨⟨_, rfl⟩, rfl⟩

/-- A bool is returned, the world is as it was, and where the bool is true each string is short. -/
def BytesPost (w : World) (ss : List ByteArray) (e : Ending) (w' : World) : Prop :=
  ∃ r : Bool, e = .returned (.bool r) ∧ w = w' ∧ (r = true → ∀ j, j < ss.length → (gs ss j).size ≤ 1048576)

set_option maxHeartbeats 400000 in
/-- zzBytes_ of one slice of strings: it returns some bool, changes nothing, and where it returns true each length is at most 2^20. -/
theorem bytes24 (a : Option Addr) (ss : List ByteArray) (cap : Nat) (w : World) (h : StrsAt w a ss) (hl : ss.length ≤ maxLen) :
    Calls Try.prog 24 #[.slice a ss.length cap] w (BytesPost w ss) := by
  unfold maxLen at hl
  by_cases hbig : ss.length ≤ 1048576
  · go_enter Try.func24, Try.ntmps24
    go_wp2
    go_loop [3, 4] (fun t i => ∃ (k : Nat) (x : Int), k ≤ ss.length ∧ i = .int .i64 k ∧ t = .int .i64 x ∧ 0 ≤ x ∧ x ≤ 1048576 ∧ Hid (∀ j, j < k → (gs ss j).size ≤ 1048576)) (fun _ i => ss.length - (intOf i).toNat)
    case atStart => exact ⟨0, _, Nat.zero_le _, rfl, rfl, by omega, by omega, fun j hj => by omega⟩
    case round =>
      obtain ⟨k, x, hk, rfl, rfl, hx0, hx1, HA⟩ := hrel
      by_cases hlt : k < ss.length
      · obtain ⟨b, off, rfl, _, hc⟩ := h k hlt
        have HH : Hid (∀ j, (gs ss k).size ≤ 1048576 → j < k + 1 → (gs ss j).size ≤ 1048576) := fun j h1 hj => by
          rcases Nat.lt_or_ge j k with h2 | h2
          · exact HA.out j h2
          · obtain rfl : j = k := by omega
            exact h1
        clear h
        go_wp2
        · go_ret
          exact ⟨false, rfl, rfl, fun h => by cases h⟩
        · go_ret
          exact ⟨false, rfl, rfl, fun h => by cases h⟩
        · go_round
          case rel => exact ⟨k + 1, _, by omega, by go_num, rfl, by omega, by omega, fun j hj => HH.out j (by omega) hj⟩
          case measure => simp [intOf]; omega
      · go_wp2
        go_ret
        exact ⟨true, rfl, rfl, fun _ j hj => HA.out j (by omega)⟩
  · go_enter Try.func24, Try.ntmps24
    go_wp2
    go_ret
    exact ⟨false, rfl, rfl, fun h => by cases h⟩

set_option maxHeartbeats 400000 in
/-- zzBytes_ of one slice of strings: it returns some bool, changes nothing, and where it returns true each length is at most 2^20. -/
theorem bytes26 (a : Option Addr) (ss : List ByteArray) (cap : Nat) (w : World) (h : StrsAt w a ss) (hl : ss.length ≤ maxLen) :
    Calls Try.prog 26 #[.slice a ss.length cap] w (BytesPost w ss) := by
  unfold maxLen at hl
  by_cases hbig : ss.length ≤ 1048576
  · go_enter Try.func26, Try.ntmps26
    go_wp2
    go_loop [3, 4] (fun t i => ∃ (k : Nat) (x : Int), k ≤ ss.length ∧ i = .int .i64 k ∧ t = .int .i64 x ∧ 0 ≤ x ∧ x ≤ 1048576 ∧ Hid (∀ j, j < k → (gs ss j).size ≤ 1048576)) (fun _ i => ss.length - (intOf i).toNat)
    case atStart => exact ⟨0, _, Nat.zero_le _, rfl, rfl, by omega, by omega, fun j hj => by omega⟩
    case round =>
      obtain ⟨k, x, hk, rfl, rfl, hx0, hx1, HA⟩ := hrel
      by_cases hlt : k < ss.length
      · obtain ⟨b, off, rfl, _, hc⟩ := h k hlt
        have HH : Hid (∀ j, (gs ss k).size ≤ 1048576 → j < k + 1 → (gs ss j).size ≤ 1048576) := fun j h1 hj => by
          rcases Nat.lt_or_ge j k with h2 | h2
          · exact HA.out j h2
          · obtain rfl : j = k := by omega
            exact h1
        clear h
        go_wp2
        · go_ret
          exact ⟨false, rfl, rfl, fun h => by cases h⟩
        · go_ret
          exact ⟨false, rfl, rfl, fun h => by cases h⟩
        · go_round
          case rel => exact ⟨k + 1, _, by omega, by go_num, rfl, by omega, by omega, fun j hj => HH.out j (by omega) hj⟩
          case measure => simp [intOf]; omega
      · go_wp2
        go_ret
        exact ⟨true, rfl, rfl, fun _ j hj => HA.out j (by omega)⟩
  · go_enter Try.func26, Try.ntmps26
    go_wp2
    go_ret
    exact ⟨false, rfl, rfl, fun h => by cases h⟩


theorem info9 : (Try.prog.info? 9).map (fun i => (i.zero, i.size, i.bytes)) = some (some (.string ByteArray.empty), 1, 16) := by kernel_rfl
theorem info3 : (Try.prog.info? 3).map (fun i => (i.zero, i.size, i.bytes)) = some (some (.int .i64 0), 1, 8) := by kernel_rfl

/-- A row of the call's own, of n elements, in block G (nil or whatever where n is 0). -/
def OwnRow (w : World) (a : Option Addr) (G : Nat) (t : TypeId) (n : Nat) (f : Nat → Value) : Prop :=
  0 < n → a = some ⟨G, 0, none⟩ ∧ w.rowIs G t n f

/-- What a clone leaves: a row of its own in the next block. -/
def ClonePost (w : World) (ss : List ByteArray) (e : Ending) (w' : World) : Prop :=
  ∃ a', e = .returned (.slice a' ss.length ss.length) ∧ Below w.heap.size w w' ∧ OwnRow w' a' w.heap.size 9 ss.length (fun j => .string (gs ss j))

set_option maxHeartbeats 400000 in
/-- zzCloneStrings_b1. -/
theorem clone12 (a : Option Addr) (ss : List ByteArray) (cap : Nat) (w : World) (h : StrsAt w a ss) (hl : ss.length ≤ 1048576) :
    Calls Try.prog 12 #[.slice a ss.length cap] w (ClonePost w ss) := by
  have hnil : ∀ W (a : Option Addr) n c, (binOp .eql 22 (.slice a n c) (.slice none 0 0)).run Try.prog W = .ok (.bool a.isNone) W := fun W a n c => Lib.run_eql_slice_nil W 22 9 a n c 0 0 Try.underlying22
  cases a with
  | none =>
    have h0 : ss.length = 0 := by
      rcases Nat.eq_zero_or_pos ss.length with h1 | h1
      · exact h1
      · obtain ⟨b, off, e, _⟩ := h 0 h1
        cases e
    go_enter Try.func12, Try.ntmps12
    go_wp2
    go_ret
    exact ⟨none, by rw [h0]; rfl, Below.refl _ _, fun hp => by omega⟩
  | some x =>
    have hmk := run_make_row' (P := Try.prog) 22 9 (.string ByteArray.empty) 16 Try.underlying22 info9 rfl .i64 .i64 ss.length (by omega) (by omega)
    have hrow := World.rowIs_made w (.string ByteArray.empty) ss.length 9
    obtain ⟨M, hM⟩ : ∃ M, M = madeCells #[.string ByteArray.empty] ss.length := ⟨_, rfl⟩
    rw [← hM] at hmk hrow
    clear hM
    go_enter Try.func12, Try.ntmps12
    go_wp2
    go_loopw [4] (fun i wr => ∃ k : Nat, k ≤ ss.length ∧ i = .int .i64 k ∧ Below w.heap.size w wr ∧ Hid (wr.rowIs w.heap.size 9 ss.length (fun j => if j < k then .string (gs ss j) else .string ByteArray.empty))) (fun i _ => ss.length - (intOf i).toNat)
    case atStart => exact ⟨0, Nat.zero_le _, rfl, (Below.refl _ _).alloc (Nat.le_refl _) _, hrow⟩
    case round =>
      obtain ⟨k, hk, rfl, hb, hr⟩ := hrel
      by_cases hlt : k < ss.length
      · obtain ⟨b, off, e, hbl, hc⟩ := h k hlt
        cases e
        have hc' := (hb.cell (p := ⟨b, off + k, none⟩) hbl).trans hc
        have hcell := hr.out.cell hlt
        simp at hcell
        have hfz := hr.out.frozen k
        have hnew := hr.out.set k (.string (gs ss k))
        have HN : Hid ((wr.setCell ⟨w.heap.size, k, none⟩ (.string (gs ss k))).rowIs w.heap.size 9 ss.length (fun j => if j < k + 1 then .string (gs ss j) else .string ByteArray.empty)) := hnew.congr (fun i hi => by
          by_cases e : i = k
          · subst e; simp
          · by_cases e2 : i < k
            · rw [if_neg e, if_pos e2, if_pos (by omega)]
            · rw [if_neg e, if_neg e2, if_neg (by omega)])
        have hbn := hb.setCell (p := ⟨w.heap.size, k, none⟩) (Nat.le_refl _) (.string (gs ss k))
        have HB : Hid (Below w.heap.size w (wr.setCell ⟨w.heap.size, k, none⟩ (.string (gs ss k)))) := hbn
        clear hbn hnew hc h hb hmk
        go_wp2
        go_roundw
        case rel => exact ⟨k + 1, by omega, by go_num, HB.out, HN⟩
        case measure => simp [intOf]; omega
      · go_wp2
        go_ret
        exact ⟨_, rfl, hb, fun _ => ⟨rfl, hr.out.congr (fun i hi => by rw [if_pos (by omega)])⟩⟩

end Go.Proofs.Qxb6000395a
