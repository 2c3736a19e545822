/-
  Seat b6600298a: breakLen, zzBreakText, zzHasAt, zzLongestBreakAt, zzCloneBytes: the walks.
-/
import Derived.Test.Qxb6600298aPlain
import Derived.ProofKit
import Derived.OpenShut
import Derived.ShutString
import Derived.ChangeOld
import Derived.Below
import Derived.BigQuiet
import Derived.Deep.QuietTactic
import Derived.WalkSpells
import Derived.Deep.OwnRows
namespace Go.Proofs.Qxb6600298a
open Go.ChangeShapes Go.WideShapes Go.ChangeAt Go.RowKit
set_option linter.unusedVariables false
set_option linter.unusedSimpArgs false

/-- The bytes zs lie in memory from the address a on. -/
def BytesAt (w : World) (a : Option Addr) (zs : List Int) : Prop :=
  ∀ k, k < zs.length → ∃ b off, a = some ⟨b, off, none⟩ ∧ b < w.heap.size ∧ w.cell? ⟨b, off + k, none⟩ = some (.int .u8 (bt zs k))

theorem BytesAt.below {w w' : World} {a : Option Addr} {zs : List Int} (h : BytesAt w a zs) (hb : Below w.heap.size w w') : BytesAt w' a zs := fun k hk => by
  obtain ⟨b, off, e, hlt, hc⟩ := h k hk
  exact ⟨b, off, e, Nat.lt_of_lt_of_le hlt hb.size, by rw [hb.cell (p := ⟨b, off + k, none⟩) hlt]; exact hc⟩

theorem BytesAt.drewN {w : World} {a : Option Addr} {zs : List Int} (h : BytesAt w a zs) (n : Nat) : BytesAt (w.drewN n) a zs := h

theorem ret_int {k : IntKind} {a b : Int} (h : a = b) : Ending.returned (.int k a) = .returned (.int k b) := by rw [h]

def BrkPost (w : World) (x : Nat) (e : Ending) (w' : World) : Prop := e = .returned (.int .i64 (x : Int)) ∧ w = w'

theorem brk_post {w : World} {x : Nat} {y : Int} (h : y = (x : Int)) : BrkPost w x (.returned (.int .i64 y)) w := ⟨ret_int h, rfl⟩

set_option maxHeartbeats 1000000 in
theorem brk20 (a : Option Addr) (zs : List Int) (cap i : Nat) (w : World) (h : BytesAt w a zs) (hi : i < zs.length) (hl : zs.length ≤ 1048576) :
    Calls Try.prog 20 #[.slice a zs.length cap, .int .i64 (i : Int)] w (BrkPost w (brk zs i)) := by
  obtain ⟨b, off, rfl, _, c0⟩ := h i hi
  by_cases e1 : bt zs i = 10
  · have HX : Hid (brk zs i = 1) := by show brk zs i = 1; simp [brk, e1]
    have t1 : (bt zs i == 10) = true := beq_iff_eq.2 e1
    clear e1
    go_enter Try.func20, Try.ntmps20
    go_wp2
    go_ret
    exact brk_post (by rw [HX.out]; rfl)
  · have t1 : (bt zs i == 10) = false := beq_eq_false_iff_ne.2 e1
    by_cases e2 : bt zs i = 13
    · have t2 : (bt zs i == 13) = true := beq_iff_eq.2 e2
      by_cases e3 : i + 1 < zs.length
      · obtain ⟨b', off', e, _, c1⟩ := h (i + 1) e3
        cases e
        by_cases e4 : bt zs (i + 1) = 10
        · have t4 : (bt zs (i + 1) == 10) = true := beq_iff_eq.2 e4
          have HX : Hid (brk zs i = 2) := by show brk zs i = 2; simp [brk, e1, e2, e3, e4]
          clear e1 e2 e4 h
          go_enter Try.func20, Try.ntmps20
          go_wp2
          go_ret
          exact brk_post (by rw [HX.out]; rfl)
        · have t4 : (bt zs (i + 1) == 10) = false := beq_eq_false_iff_ne.2 e4
          have HX : Hid (brk zs i = 1) := by show brk zs i = 1; simp [brk, e1, e2, e3, e4]
          clear e1 e2 e4 h
          go_enter Try.func20, Try.ntmps20
          go_wp2
          go_ret
          exact brk_post (by rw [HX.out]; rfl)
      · have HX : Hid (brk zs i = 1) := by show brk zs i = 1; simp [brk, e1, e2, e3]
        have t3 : decide ((i : Int) + 1 < (zs.length : Int)) = false := decide_eq_false (by omega)
        clear e1 e2 h
        go_enter Try.func20, Try.ntmps20
        go_wp2
        go_ret
        exact brk_post (by rw [HX.out]; rfl)
    · have t2 : (bt zs i == 13) = false := beq_eq_false_iff_ne.2 e2
      by_cases e5 : bt zs i = 194
      · have t5 : (bt zs i == 194) = true := beq_iff_eq.2 e5
        by_cases e3 : i + 1 < zs.length
        · obtain ⟨b', off', e, _, c1⟩ := h (i + 1) e3
          cases e
          by_cases e4 : bt zs (i + 1) = 133
          · have t4 : (bt zs (i + 1) == 133) = true := beq_iff_eq.2 e4
            have HX : Hid (brk zs i = 2) := by show brk zs i = 2; simp [brk, e1, e2, e5, e3, e4]
            clear e1 e2 e5 e4 h
            go_enter Try.func20, Try.ntmps20
            go_wp2
            go_ret
            exact brk_post (by rw [HX.out]; rfl)
          · have t4 : (bt zs (i + 1) == 133) = false := beq_eq_false_iff_ne.2 e4
            have HX : Hid (brk zs i = 0) := by show brk zs i = 0; simp [brk, e1, e2, e5, e3, e4]
            clear e1 e2 e5 e4 h
            go_enter Try.func20, Try.ntmps20
            go_wp2
            go_ret
            exact brk_post (by rw [HX.out]; rfl)
        · have HX : Hid (brk zs i = 0) := by show brk zs i = 0; simp [brk, e1, e2, e5, e3]
          have t3 : decide ((i : Int) + 1 < (zs.length : Int)) = false := decide_eq_false (by omega)
          clear e1 e2 e5 h
          go_enter Try.func20, Try.ntmps20
          go_wp2
          go_ret
          exact brk_post (by rw [HX.out]; rfl)
      · have t5 : (bt zs i == 194) = false := beq_eq_false_iff_ne.2 e5
        by_cases e6 : bt zs i = 226
        · have t6 : (bt zs i == 226) = true := beq_iff_eq.2 e6
          by_cases e3 : i + 2 < zs.length
          · obtain ⟨b', off', e, _, c1⟩ := h (i + 1) (by omega)
            cases e
            obtain ⟨b', off', e, _, c2⟩ := h (i + 2) e3
            cases e
            by_cases e4 : bt zs (i + 1) = 128
            · have t4 : (bt zs (i + 1) == 128) = true := beq_iff_eq.2 e4
              by_cases e7 : bt zs (i + 2) = 168
              · have t7 : (bt zs (i + 2) == 168) = true := beq_iff_eq.2 e7
                have HX : Hid (brk zs i = 3) := by show brk zs i = 3; simp [brk, e1, e2, e5, e6, e3, e4, e7]
                clear e1 e2 e5 e6 e4 e7 h
                go_enter Try.func20, Try.ntmps20
                go_wp2
                go_ret
                exact brk_post (by rw [HX.out]; rfl)
              · have t7 : (bt zs (i + 2) == 168) = false := beq_eq_false_iff_ne.2 e7
                by_cases e8 : bt zs (i + 2) = 169
                · have t8 : (bt zs (i + 2) == 169) = true := beq_iff_eq.2 e8
                  have HX : Hid (brk zs i = 3) := by show brk zs i = 3; simp [brk, e1, e2, e5, e6, e3, e4, e7, e8]
                  clear e1 e2 e5 e6 e4 e7 e8 h
                  go_enter Try.func20, Try.ntmps20
                  go_wp2
                  go_ret
                  exact brk_post (by rw [HX.out]; rfl)
                · have t8 : (bt zs (i + 2) == 169) = false := beq_eq_false_iff_ne.2 e8
                  have HX : Hid (brk zs i = 0) := by show brk zs i = 0; simp [brk, e1, e2, e5, e6, e3, e4, e7, e8]
                  clear e1 e2 e5 e6 e4 e7 e8 h
                  go_enter Try.func20, Try.ntmps20
                  go_wp2
                  go_ret
                  exact brk_post (by rw [HX.out]; rfl)
            · have t4 : (bt zs (i + 1) == 128) = false := beq_eq_false_iff_ne.2 e4
              have HX : Hid (brk zs i = 0) := by show brk zs i = 0; simp [brk, e1, e2, e5, e6, e3, e4]
              clear e1 e2 e5 e6 e4 h
              go_enter Try.func20, Try.ntmps20
              go_wp2
              go_ret
              exact brk_post (by rw [HX.out]; rfl)
          · have HX : Hid (brk zs i = 0) := by show brk zs i = 0; simp [brk, e1, e2, e5, e6, e3]
            have t3 : decide ((i : Int) + 2 < (zs.length : Int)) = false := decide_eq_false (by omega)
            clear e1 e2 e5 e6 h
            go_enter Try.func20, Try.ntmps20
            go_wp2
            go_ret
            exact brk_post (by rw [HX.out]; rfl)
        · have t6 : (bt zs i == 226) = false := beq_eq_false_iff_ne.2 e6
          have HX : Hid (brk zs i = 0) := by show brk zs i = 0; simp [brk, e1, e2, e5, e6]
          clear e1 e2 e5 e6 h
          go_enter Try.func20, Try.ntmps20
          go_wp2
          go_ret
          exact brk_post (by rw [HX.out]; rfl)

set_option maxHeartbeats 400000 in
theorem brk10 (a : Option Addr) (zs : List Int) (cap i : Nat) (w : World) (h : BytesAt w a zs) (hi : i < zs.length) (hl : zs.length ≤ 1048576) :
    Calls Try.prog 10 #[.slice a zs.length cap, .int .i64 (i : Int)] w (BrkPost w (brk zs i)) := by
  go_enter Try.func10, Try.ntmps10
  go_wp2_with fail
  refine (brk20 a zs cap i _ h hi hl).mono ?_
  rintro e w' ⟨rfl, rfl⟩
  go_wp2
  go_ret
  exact ⟨rfl, rfl⟩

end Go.Proofs.Qxb6600298a
