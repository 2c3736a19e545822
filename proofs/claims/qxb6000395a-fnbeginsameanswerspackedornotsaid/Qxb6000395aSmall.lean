/-
  Seat b6000395a: ZZPack, zzDigits_b1, zzMin_b1, zzBytes_ of two slices.
-/
import Derived.Test.Qxb6000395aPack
import Derived.Test.Qxb6000395aPackSeq
namespace Go.Proofs.Qxb6000395a
open Go.RowKit
set_option linter.unusedVariables false
set_option linter.unusedSimpArgs false

set_option maxHeartbeats 400000 in
theorem pack18 (w : World) (K : Nat) (R : Nat → Prop) (s : St) (j n : ByteArray) (h : KeysAt w K R s) (hj : j.size ≤ 1048576) (hn : n.size ≤ 1048576) (hJ : s.J.length ≤ 1024) :
    Calls Try.prog 18 #[.pointer (some ⟨K, 0, none⟩), .string j, .string n] w (PackPost w K R s j n) := by
  go_enter Try.func18, Try.ntmps18
  go_wp2_with fail
  refine (pack28 _ K R s j n h hj hn hJ).mono ?_
  rintro e w' ⟨rfl, hk, hkept⟩
  go_wp2
  go_ret2
  exact ⟨rfl, hk, hkept⟩

def DigPost (w : World) (s : ByteArray) (e : Ending) (w' : World) : Prop := e = .returned (.bool (digsB s)) ∧ w = w'

theorem byteAt_get {s : ByteArray} {k : Nat} (h : k < s.size) : (s[k]'h).toNat = byteAt s k := by
  unfold byteAt
  have h2 : k < s.data.toList.length := by rw [Array.length_toList]; exact h
  rw [List.getD, List.getElem?_eq_getElem h2, Option.getD_some]
  rfl

set_option maxHeartbeats 400000 in
theorem digits19 (s : ByteArray) (w : World) (hs : s.size ≤ 1048576) : Calls Try.prog 19 #[.string s] w (DigPost w s) := by
  by_cases h0 : s.size = 0
  · have hd : digsB s = false := digsB_false (by rintro ⟨h1, _⟩; omega)
    have HD : Hid (digsB s = false) := hd
    have h0' : ((s.size : Int) == 0) = true := beq_iff_eq.2 (by omega)
    clear hd h0
    go_enter Try.func19, Try.ntmps19
    go_wp2
    all_goals go_ret
    all_goals exact ⟨by rw [HD.out]; rfl, rfl⟩
  · have h0' : ((s.size : Int) == 0) = false := beq_eq_false_iff_ne.2 (by omega)
    by_cases h15 : s.size ≤ 15
    · go_enter Try.func19, Try.ntmps19
      go_wp2
      go_loop [3] (fun i => ∃ k : Nat, k ≤ s.size ∧ i = .int .i64 k ∧ Hid (∀ m, m < k → isDig s m)) (fun i => s.size - (intOf i).toNat)
      case atStart => exact ⟨0, Nat.zero_le _, rfl, fun m hm => by omega⟩
      case round =>
        obtain ⟨k, hk, rfl, hd⟩ := hrel
        by_cases hlt : k < s.size
        · have hb := byteAt_get hlt
          have HB : Hid ((s[k]'hlt).toNat = byteAt s k) := hb
          clear hb
          by_cases hdig : 48 ≤ (s[k]'hlt).toNat ∧ (s[k]'hlt).toNat ≤ 57
          · obtain ⟨hd1, hd2⟩ := hdig
            go_wp2
            go_round
            case rel => exact ⟨k + 1, by omega, by go_num, fun m hm => by
              rcases Nat.lt_or_ge m k with h3 | h3
              · exact hd.out m h3
              · obtain rfl : m = k := by omega
                exact ⟨by rw [← HB.out]; omega, by rw [← HB.out]; omega⟩⟩
            case measure => simp [intOf]; omega
          · have HD : Hid (digsB s = false) := digsB_false (fun h1 => hdig (by
              have := h1.2.2 k hlt
              unfold isDig at this
              rw [HB.out]
              exact this))
            go_wp2
            all_goals go_ret
            all_goals exact ⟨by rw [HD.out]; rfl, rfl⟩
        · have HD : Hid (digsB s = true) := (digsB_iff s).2 ⟨by omega, h15, fun m hm => hd.out m (by omega)⟩
          go_wp2
          go_ret
          exact ⟨by rw [HD.out]; rfl, rfl⟩
    · have HD : Hid (digsB s = false) := digsB_false (by rintro ⟨_, h1, _⟩; omega)
      go_enter Try.func19, Try.ntmps19
      go_wp2
      all_goals go_ret
      all_goals exact ⟨by rw [HD.out]; rfl, rfl⟩

def MinPost (w : World) (a b : Nat) (e : Ending) (w' : World) : Prop := e = .returned (.int .i64 (min a b : Nat)) ∧ w = w'

set_option maxHeartbeats 400000 in
theorem min11 (a b : Nat) (w : World) : Calls Try.prog 11 #[.int .i64 (a : Int), .int .i64 (b : Int)] w (MinPost w a b) := by
  by_cases h : a < b
  · have HM : Hid (min a b = a) := by show min a b = a; omega
    go_enter Try.func11, Try.ntmps11
    go_wp2
    go_ret
    exact ⟨by rw [HM.out]; rfl, rfl⟩
  · have HM : Hid (min a b = b) := by show min a b = b; omega
    go_enter Try.func11, Try.ntmps11
    go_wp2
    go_ret
    exact ⟨by rw [HM.out]; rfl, rfl⟩

/-- A bool is returned, the world is as it was, and where the bool is true each string of both is short. -/
def BytesPost2 (w : World) (ss tt : List ByteArray) (e : Ending) (w' : World) : Prop :=
  ∃ r : Bool, e = .returned (.bool r) ∧ w = w' ∧ (r = true → (∀ j, j < ss.length → (gs ss j).size ≤ 1048576) ∧ ∀ j, j < tt.length → (gs tt j).size ≤ 1048576)

theorem bytes2_false {w : World} {ss tt : List ByteArray} : BytesPost2 w ss tt (.returned (.bool false)) w := ⟨false, rfl, rfl, fun h => by cases h⟩

set_option maxHeartbeats 1000000 in
theorem bytes17 (a a2 : Option Addr) (ss tt : List ByteArray) (cap cap2 : Nat) (w : World) (h : StrsAt w a ss) (hl : ss.length ≤ maxLen) (h2 : StrsAt w a2 tt) (hl2 : tt.length ≤ maxLen) :
    Calls Try.prog 17 #[.slice a ss.length cap, .slice a2 tt.length cap2] w (BytesPost2 w ss tt) := by
  unfold maxLen at hl hl2
  by_cases hbig : ss.length ≤ 1048576
  · go_enter Try.func17, Try.ntmps17
    go_wp2
    go_loop [5, 6] (fun t i => ∃ (k : Nat) (x : Int), k ≤ ss.length ∧ i = .int .i64 k ∧ t = .int .i64 x ∧ 0 ≤ x ∧ x ≤ 1048576 ∧ Hid (∀ j, j < k → (gs ss j).size ≤ 1048576)) (fun _ i => ss.length - (intOf i).toNat)
    case atStart => exact ⟨0, _, Nat.zero_le _, rfl, rfl, by omega, by omega, fun j hj => by omega⟩
    case round =>
      obtain ⟨k, x, hk, rfl, rfl, hx0, hx1, HA⟩ := hrel
      by_cases hlt : k < ss.length
      · obtain ⟨b, off, rfl, _, hc⟩ := h k hlt
        have HH : Hid (∀ j, (gs ss k).size ≤ 1048576 → j < k + 1 → (gs ss j).size ≤ 1048576) := fun j h1 hj => by
          rcases Nat.lt_or_ge j k with h3 | h3
          · exact HA.out j h3
          · obtain rfl : j = k := by omega
            exact h1
        clear h h2
        go_wp2
        · go_ret
          exact bytes2_false
        · go_ret
          exact bytes2_false
        · go_round
          case rel => exact ⟨k + 1, _, by omega, by go_num, rfl, by omega, by omega, fun j hj => HH.out j (by omega) hj⟩
          case measure => simp [intOf]; omega
      · have HF : Hid (∀ j, j < ss.length → (gs ss j).size ≤ 1048576) := fun j hj => HA.out j (by omega)
        clear HA h
        by_cases hbig2 : tt.length ≤ 1048576
        · by_cases hsum : x + (tt.length : Int) ≤ 1048576
          · go_wp2
            go_loop [5, 7] (fun t i => ∃ (m : Nat) (y : Int), m ≤ tt.length ∧ i = .int .i64 m ∧ t = .int .i64 y ∧ 0 ≤ y ∧ y ≤ 1048576 ∧ Hid (∀ j, j < m → (gs tt j).size ≤ 1048576)) (fun _ i => tt.length - (intOf i).toNat)
            case atStart => exact ⟨0, _, Nat.zero_le _, rfl, rfl, by omega, by omega, fun j hj => by omega⟩
            case round =>
              obtain ⟨m, y, hm, rfl, rfl, hy0, hy1, HA⟩ := hrel
              by_cases hlt2 : m < tt.length
              · obtain ⟨b, off, rfl, _, hc⟩ := h2 m hlt2
                have HH : Hid (∀ j, (gs tt m).size ≤ 1048576 → j < m + 1 → (gs tt j).size ≤ 1048576) := fun j h1 hj => by
                  rcases Nat.lt_or_ge j m with h3 | h3
                  · exact HA.out j h3
                  · obtain rfl : j = m := by omega
                    exact h1
                clear h2
                go_wp2
                · go_ret
                  exact bytes2_false
                · go_ret
                  exact bytes2_false
                · go_round
                  case rel => exact ⟨m + 1, _, by omega, by go_num, rfl, by omega, by omega, fun j hj => HH.out j (by omega) hj⟩
                  case measure => simp [intOf]; omega
              · go_wp2
                go_ret
                exact ⟨true, rfl, rfl, fun _ => ⟨HF.out, fun j hj => HA.out j (by omega)⟩⟩
          · go_wp2
            go_ret
            exact bytes2_false
        · go_wp2
          go_ret
          exact bytes2_false
  · go_enter Try.func17, Try.ntmps17
    go_wp2
    go_ret
    exact bytes2_false

end Go.Proofs.Qxb6000395a
