/-
  Seat b6000395a: ZZBegin, zzCloneInts_b1, zzBytes_ of three slices of strings and one of ints. (The last twice the same, by program.)
-/
import Derived.Test.Qxb6000395aBegin
import Derived.Test.Qxb6000395aSmall
import Derived.Test.Qxb6000395aOpen
namespace Go.Proofs.Qxb6000395a
open Go.RowKit
set_option linter.unusedVariables false
set_option linter.unusedSimpArgs false

set_option maxHeartbeats 400000 in
theorem begin15 (w : World) (K : Nat) (R : Nat → Prop) (s : St) (H : List Begun) (j n : ByteArray) (line : Int) (code : ByteArray) (h : KeysAt w K R s) (hb : Beg s H) (hj : j.size ≤ 1048576) (hn : n.size ≤ 1048576) (hcode : code.size ≤ 1048576)
    (hJ : s.J.length ≤ 1024) (hC : s.C.length ≤ 10000) (h0 : 0 ≤ line) (h63 : line ≤ 9223372036854775807) :
    Calls Try.prog 15 #[.pointer (some ⟨K, 0, none⟩), .string j, .string n, .int .i64 line, .string code] w (BegPost w K R s H j n line code) := by
  go_enter Try.func15, Try.ntmps15
  go_wp2_with fail
  refine (begin27 _ K R s H j n line code h hb hj hn hcode hJ hC h0 h63).mono ?_
  rintro e w' ⟨s', h1, h2, h3, h4, h5⟩
  rcases h5 with ⟨l, c, h6, rfl, h7⟩ | ⟨h6, rfl, h7⟩
  · go_wp2
    go_ret3
    exact ⟨s', h1, h2, h3, h4, .inl ⟨l, c, h6, rfl, h7⟩⟩
  · go_wp2
    go_ret3
    exact ⟨s', h1, h2, h3, h4, .inr ⟨h6, rfl, h7⟩⟩

/-- What a clone leaves: a row of its own in the next block. -/
def CloneIPost (w : World) (zs : List Int) (e : Ending) (w' : World) : Prop :=
  ∃ a', e = .returned (.slice a' zs.length zs.length) ∧ Below w.heap.size w w' ∧ OwnRow w' a' w.heap.size 3 zs.length (fun j => .int .i64 (zs.getD j 0))

set_option maxHeartbeats 400000 in
/-- zzCloneInts_b1. -/
theorem clone13 (a : Option Addr) (zs : List Int) (cap : Nat) (w : World) (h : IntsAt w a zs) (hl : zs.length ≤ 1048576) :
    Calls Try.prog 13 #[.slice a zs.length cap] w (CloneIPost w zs) := by
  have hnil : ∀ W (a : Option Addr) n c, (binOp .eql 23 (.slice a n c) (.slice none 0 0)).run Try.prog W = .ok (.bool a.isNone) W := fun W a n c => Lib.run_eql_slice_nil W 23 3 a n c 0 0 Try.underlying23
  obtain ⟨f, hf⟩ : ∃ f : Nat → Int, f = fun j => zs.getD j 0 := ⟨_, rfl⟩
  have hfz : ∀ j, zs.getD j 0 = f j := fun j => by rw [hf]
  have h' : ∀ k, k < zs.length → ∃ b off, a = some ⟨b, off, none⟩ ∧ b < w.heap.size ∧ w.cell? ⟨b, off + k, none⟩ = some (.int .i64 (f k)) := fun k hk => by
    obtain ⟨b, off, e1, e2, e3⟩ := h k hk
    exact ⟨b, off, e1, e2, by rw [e3, hfz]⟩
  have HF : Hid (∀ j, zs.getD j 0 = f j) := hfz
  clear hf hfz h
  cases a with
  | none =>
    have h0 : zs.length = 0 := by
      rcases Nat.eq_zero_or_pos zs.length with h1 | h1
      · exact h1
      · obtain ⟨b, off, e, _⟩ := h' 0 h1
        cases e
    go_enter Try.func13, Try.ntmps13
    go_wp2
    go_ret
    exact ⟨none, by rw [h0]; rfl, Below.refl _ _, fun hp => by omega⟩
  | some x =>
    have hmk := run_make_row' (P := Try.prog) 23 3 (.int .i64 0) 8 Try.underlying23 info3 rfl .i64 .i64 zs.length (by omega) (by omega)
    have hrow := World.rowIs_made w (.int .i64 0) zs.length 3
    obtain ⟨M, hM⟩ : ∃ M, M = madeCells #[.int .i64 0] zs.length := ⟨_, rfl⟩
    rw [← hM] at hmk hrow
    clear hM
    go_enter Try.func13, Try.ntmps13
    go_wp2
    go_loopw [4] (fun i wr => ∃ k : Nat, k ≤ zs.length ∧ i = .int .i64 k ∧ Below w.heap.size w wr ∧ Hid (wr.rowIs w.heap.size 3 zs.length (fun j => if j < k then .int .i64 (f j) else .int .i64 0))) (fun i _ => zs.length - (intOf i).toNat)
    case atStart => exact ⟨0, Nat.zero_le _, rfl, (Below.refl _ _).alloc (Nat.le_refl _) _, hrow⟩
    case round =>
      obtain ⟨k, hk, rfl, hb, hr⟩ := hrel
      by_cases hlt : k < zs.length
      · obtain ⟨b, off, e, hbl, hc⟩ := h' k hlt
        cases e
        have hc' := (hb.cell (p := ⟨b, off + k, none⟩) hbl).trans hc
        have hcell := hr.out.cell hlt
        simp at hcell
        have hfz := hr.out.frozen k
        have hnew := hr.out.set k (.int .i64 (f k))
        have HN : Hid ((wr.setCell ⟨w.heap.size, k, none⟩ (.int .i64 (f k))).rowIs w.heap.size 3 zs.length (fun j => if j < k + 1 then .int .i64 (f j) else .int .i64 0)) := hnew.congr (fun i hi => by
          by_cases e : i = k
          · subst e; simp
          · by_cases e2 : i < k
            · rw [if_neg e, if_pos e2, if_pos (by omega)]
            · rw [if_neg e, if_neg e2, if_neg (by omega)])
        have hbn := hb.setCell (p := ⟨w.heap.size, k, none⟩) (Nat.le_refl _) (.int .i64 (f k))
        have HB : Hid (Below w.heap.size w (wr.setCell ⟨w.heap.size, k, none⟩ (.int .i64 (f k)))) := hbn
        clear hbn hnew hc h' hb hmk
        go_wp2
        go_roundw
        case rel => exact ⟨k + 1, by omega, by go_num, HB.out, HN⟩
        case measure => simp [intOf]; omega
      · go_wp2
        go_ret
        exact ⟨_, rfl, hb, fun _ => ⟨rfl, hr.out.congr (fun i hi => by rw [if_pos (by omega), HF.out])⟩⟩

def BytesPost4 (w : World) (ss tt cc : List ByteArray) (e : Ending) (w' : World) : Prop :=
  ∃ r : Bool, e = .returned (.bool r) ∧ w = w' ∧ (r = true → (∀ j, j < ss.length → (gs ss j).size ≤ 1048576) ∧ (∀ j, j < tt.length → (gs tt j).size ≤ 1048576) ∧ ∀ j, j < cc.length → (gs cc j).size ≤ 1048576)

theorem bytes4_false {w : World} {ss tt cc : List ByteArray} : BytesPost4 w ss tt cc (.returned (.bool false)) w := ⟨false, rfl, rfl, fun h => by cases h⟩

set_option maxRecDepth 100000 in
set_option maxHeartbeats 1000000 in
theorem bytes9 (a a2 a3 a4 : Option Addr) (ss tt : List ByteArray) (lines : List Int) (cc : List ByteArray) (cap cap2 cap3 cap4 : Nat) (w : World) (h : StrsAt w a ss) (hl : ss.length ≤ maxLen) (h2 : StrsAt w a2 tt) (hl2 : tt.length ≤ maxLen) (hl3 : lines.length ≤ maxLen) (h4 : StrsAt w a4 cc) (hl4 : cc.length ≤ maxLen) :
    Calls Try.prog 9 #[.slice a ss.length cap, .slice a2 tt.length cap2, .slice a3 lines.length cap3, .slice a4 cc.length cap4] w (BytesPost4 w ss tt cc) := by
  unfold maxLen at hl hl2 hl3 hl4
  by_cases hbig : ss.length ≤ 1048576
  · go_enter Try.func9, Try.ntmps9
    go_wp2
    go_loop [9, 10] (fun t i => ∃ (k : Nat) (x : Int), k ≤ ss.length ∧ i = .int .i64 k ∧ t = .int .i64 x ∧ 0 ≤ x ∧ x ≤ 1048576 ∧ Hid (∀ j, j < k → (gs ss j).size ≤ 1048576)) (fun _ i => ss.length - (intOf i).toNat)
    case atStart => exact ⟨0, _, Nat.zero_le _, rfl, rfl, by omega, by omega, fun j hj => by omega⟩
    case round =>
      obtain ⟨k, x, hkk, rfl, rfl, hx0, hx1, HA⟩ := hrel
      by_cases hltk : k < ss.length
      · obtain ⟨b, off, rfl, _, hc⟩ := h k hltk
        have HH : Hid (∀ j, (gs ss k).size ≤ 1048576 → j < k + 1 → (gs ss j).size ≤ 1048576) := fun j h1 hj => by
          rcases Nat.lt_or_ge j k with h3 | h3
          · exact HA.out j h3
          · obtain rfl : j = k := by omega
            exact h1
        clear h h2 h4
        go_wp2
        · go_ret
          exact bytes4_false
        · go_ret
          exact bytes4_false
        · go_round
          case rel => exact ⟨k + 1, _, by omega, by go_num, rfl, by omega, by omega, fun j hj => HH.out j (by omega) hj⟩
          case measure => simp [intOf]; omega
      · have HF1 : Hid (∀ j, j < ss.length → (gs ss j).size ≤ 1048576) := fun j hj => HA.out j (by omega)
        clear HA h
        by_cases hb2 : tt.length ≤ 1048576
        · -- go on
          by_cases hs2 : x + (tt.length : Int) ≤ 1048576
          · -- go on
            go_wp2
            go_loop [9, 11] (fun t i => ∃ (k : Nat) (x : Int), k ≤ tt.length ∧ i = .int .i64 k ∧ t = .int .i64 x ∧ 0 ≤ x ∧ x ≤ 1048576 ∧ Hid (∀ j, j < k → (gs tt j).size ≤ 1048576)) (fun _ i => tt.length - (intOf i).toNat)
            case atStart => exact ⟨0, _, Nat.zero_le _, rfl, rfl, by omega, by omega, fun j hj => by omega⟩
            case round =>
              obtain ⟨m, y, hkm, rfl, rfl, hy0, hy1, HA⟩ := hrel
              by_cases hltm : m < tt.length
              · obtain ⟨b, off, rfl, _, hc⟩ := h2 m hltm
                have HH : Hid (∀ j, (gs tt m).size ≤ 1048576 → j < m + 1 → (gs tt j).size ≤ 1048576) := fun j h1 hj => by
                  rcases Nat.lt_or_ge j m with h3 | h3
                  · exact HA.out j h3
                  · obtain rfl : j = m := by omega
                    exact h1
                clear h2 h4
                go_wp2
                · go_ret
                  exact bytes4_false
                · go_ret
                  exact bytes4_false
                · go_round
                  case rel => exact ⟨m + 1, _, by omega, by go_num, rfl, by omega, by omega, fun j hj => HH.out j (by omega) hj⟩
                  case measure => simp [intOf]; omega
              · have HF2 : Hid (∀ j, j < tt.length → (gs tt j).size ≤ 1048576) := fun j hj => HA.out j (by omega)
                clear HA h2
                by_cases hb3 : lines.length ≤ 1048576
                · -- go on
                  by_cases hs3 : y + (lines.length : Int) ≤ 1048576
                  · -- go on
                    by_cases hb4 : cc.length ≤ 1048576
                    · -- go on
                      by_cases hs4 : y + (lines.length : Int) + (cc.length : Int) ≤ 1048576
                      · -- go on
                        go_wp2
                        go_loop [9, 12] (fun t i => ∃ (k : Nat) (x : Int), k ≤ cc.length ∧ i = .int .i64 k ∧ t = .int .i64 x ∧ 0 ≤ x ∧ x ≤ 1048576 ∧ Hid (∀ j, j < k → (gs cc j).size ≤ 1048576)) (fun _ i => cc.length - (intOf i).toNat)
                        case atStart => exact ⟨0, _, Nat.zero_le _, rfl, rfl, by omega, by omega, fun j hj => by omega⟩
                        case round =>
                          obtain ⟨q, z, hkq, rfl, rfl, hz0, hz1, HA⟩ := hrel
                          by_cases hltq : q < cc.length
                          · obtain ⟨b, off, rfl, _, hc⟩ := h4 q hltq
                            have HH : Hid (∀ j, (gs cc q).size ≤ 1048576 → j < q + 1 → (gs cc j).size ≤ 1048576) := fun j h1 hj => by
                              rcases Nat.lt_or_ge j q with h3 | h3
                              · exact HA.out j h3
                              · obtain rfl : j = q := by omega
                                exact h1
                            clear h4
                            go_wp2
                            · go_ret
                              exact bytes4_false
                            · go_ret
                              exact bytes4_false
                            · go_round
                              case rel => exact ⟨q + 1, _, by omega, by go_num, rfl, by omega, by omega, fun j hj => HH.out j (by omega) hj⟩
                              case measure => simp [intOf]; omega
                          · have HF3 : Hid (∀ j, j < cc.length → (gs cc j).size ≤ 1048576) := fun j hj => HA.out j (by omega)
                            clear HA h4
                            go_wp2
                            go_ret
                            exact ⟨true, rfl, rfl, fun _ => ⟨HF1.out, HF2.out, HF3.out⟩⟩
                      · go_wp2
                        go_ret
                        exact bytes4_false
                    · go_wp2
                      go_ret
                      exact bytes4_false
                  · go_wp2
                    go_ret
                    exact bytes4_false
                · go_wp2
                  go_ret
                  exact bytes4_false
          · go_wp2
            go_ret
            exact bytes4_false
        · go_wp2
          go_ret
          exact bytes4_false
  · go_enter Try.func9, Try.ntmps9
    go_wp2
    go_ret
    exact bytes4_false

set_option maxRecDepth 100000 in
set_option maxHeartbeats 1000000 in
theorem bytes16 (a a2 a3 a4 : Option Addr) (ss tt : List ByteArray) (lines : List Int) (cc : List ByteArray) (cap cap2 cap3 cap4 : Nat) (w : World) (h : StrsAt w a ss) (hl : ss.length ≤ maxLen) (h2 : StrsAt w a2 tt) (hl2 : tt.length ≤ maxLen) (hl3 : lines.length ≤ maxLen) (h4 : StrsAt w a4 cc) (hl4 : cc.length ≤ maxLen) :
    Calls Try.prog 16 #[.slice a ss.length cap, .slice a2 tt.length cap2, .slice a3 lines.length cap3, .slice a4 cc.length cap4] w (BytesPost4 w ss tt cc) := by
  unfold maxLen at hl hl2 hl3 hl4
  by_cases hbig : ss.length ≤ 1048576
  · go_enter Try.func16, Try.ntmps16
    go_wp2
    go_loop [9, 10] (fun t i => ∃ (k : Nat) (x : Int), k ≤ ss.length ∧ i = .int .i64 k ∧ t = .int .i64 x ∧ 0 ≤ x ∧ x ≤ 1048576 ∧ Hid (∀ j, j < k → (gs ss j).size ≤ 1048576)) (fun _ i => ss.length - (intOf i).toNat)
    case atStart => exact ⟨0, _, Nat.zero_le _, rfl, rfl, by omega, by omega, fun j hj => by omega⟩
    case round =>
      obtain ⟨k, x, hkk, rfl, rfl, hx0, hx1, HA⟩ := hrel
      by_cases hltk : k < ss.length
      · obtain ⟨b, off, rfl, _, hc⟩ := h k hltk
        have HH : Hid (∀ j, (gs ss k).size ≤ 1048576 → j < k + 1 → (gs ss j).size ≤ 1048576) := fun j h1 hj => by
          rcases Nat.lt_or_ge j k with h3 | h3
          · exact HA.out j h3
          · obtain rfl : j = k := by omega
            exact h1
        clear h h2 h4
        go_wp2
        · go_ret
          exact bytes4_false
        · go_ret
          exact bytes4_false
        · go_round
          case rel => exact ⟨k + 1, _, by omega, by go_num, rfl, by omega, by omega, fun j hj => HH.out j (by omega) hj⟩
          case measure => simp [intOf]; omega
      · have HF1 : Hid (∀ j, j < ss.length → (gs ss j).size ≤ 1048576) := fun j hj => HA.out j (by omega)
        clear HA h
        by_cases hb2 : tt.length ≤ 1048576
        · -- go on
          by_cases hs2 : x + (tt.length : Int) ≤ 1048576
          · -- go on
            go_wp2
            go_loop [9, 11] (fun t i => ∃ (k : Nat) (x : Int), k ≤ tt.length ∧ i = .int .i64 k ∧ t = .int .i64 x ∧ 0 ≤ x ∧ x ≤ 1048576 ∧ Hid (∀ j, j < k → (gs tt j).size ≤ 1048576)) (fun _ i => tt.length - (intOf i).toNat)
            case atStart => exact ⟨0, _, Nat.zero_le _, rfl, rfl, by omega, by omega, fun j hj => by omega⟩
            case round =>
              obtain ⟨m, y, hkm, rfl, rfl, hy0, hy1, HA⟩ := hrel
              by_cases hltm : m < tt.length
              · obtain ⟨b, off, rfl, _, hc⟩ := h2 m hltm
                have HH : Hid (∀ j, (gs tt m).size ≤ 1048576 → j < m + 1 → (gs tt j).size ≤ 1048576) := fun j h1 hj => by
                  rcases Nat.lt_or_ge j m with h3 | h3
                  · exact HA.out j h3
                  · obtain rfl : j = m := by omega
                    exact h1
                clear h2 h4
                go_wp2
                · go_ret
                  exact bytes4_false
                · go_ret
                  exact bytes4_false
                · go_round
                  case rel => exact ⟨m + 1, _, by omega, by go_num, rfl, by omega, by omega, fun j hj => HH.out j (by omega) hj⟩
                  case measure => simp [intOf]; omega
              · have HF2 : Hid (∀ j, j < tt.length → (gs tt j).size ≤ 1048576) := fun j hj => HA.out j (by omega)
                clear HA h2
                by_cases hb3 : lines.length ≤ 1048576
                · -- go on
                  by_cases hs3 : y + (lines.length : Int) ≤ 1048576
                  · -- go on
                    by_cases hb4 : cc.length ≤ 1048576
                    · -- go on
                      by_cases hs4 : y + (lines.length : Int) + (cc.length : Int) ≤ 1048576
                      · -- go on
                        go_wp2
                        go_loop [9, 12] (fun t i => ∃ (k : Nat) (x : Int), k ≤ cc.length ∧ i = .int .i64 k ∧ t = .int .i64 x ∧ 0 ≤ x ∧ x ≤ 1048576 ∧ Hid (∀ j, j < k → (gs cc j).size ≤ 1048576)) (fun _ i => cc.length - (intOf i).toNat)
                        case atStart => exact ⟨0, _, Nat.zero_le _, rfl, rfl, by omega, by omega, fun j hj => by omega⟩
                        case round =>
                          obtain ⟨q, z, hkq, rfl, rfl, hz0, hz1, HA⟩ := hrel
                          by_cases hltq : q < cc.length
                          · obtain ⟨b, off, rfl, _, hc⟩ := h4 q hltq
                            have HH : Hid (∀ j, (gs cc q).size ≤ 1048576 → j < q + 1 → (gs cc j).size ≤ 1048576) := fun j h1 hj => by
                              rcases Nat.lt_or_ge j q with h3 | h3
                              · exact HA.out j h3
                              · obtain rfl : j = q := by omega
                                exact h1
                            clear h4
                            go_wp2
                            · go_ret
                              exact bytes4_false
                            · go_ret
                              exact bytes4_false
                            · go_round
                              case rel => exact ⟨q + 1, _, by omega, by go_num, rfl, by omega, by omega, fun j hj => HH.out j (by omega) hj⟩
                              case measure => simp [intOf]; omega
                          · have HF3 : Hid (∀ j, j < cc.length → (gs cc j).size ≤ 1048576) := fun j hj => HA.out j (by omega)
                            clear HA h4
                            go_wp2
                            go_ret
                            exact ⟨true, rfl, rfl, fun _ => ⟨HF1.out, HF2.out, HF3.out⟩⟩
                      · go_wp2
                        go_ret
                        exact bytes4_false
                    · go_wp2
                      go_ret
                      exact bytes4_false
                  · go_wp2
                    go_ret
                    exact bytes4_false
                · go_wp2
                  go_ret
                  exact bytes4_false
          · go_wp2
            go_ret
            exact bytes4_false
        · go_wp2
          go_ret
          exact bytes4_false
  · go_enter Try.func16, Try.ntmps16
    go_wp2
    go_ret
    exact bytes4_false

end Go.Proofs.Qxb6000395a
