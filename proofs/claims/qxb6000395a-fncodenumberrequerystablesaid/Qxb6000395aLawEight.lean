/-
  Seat b6000395a: FnCodeNumberRequeryStable: the walk.
-/
import Derived.Test.Qxb6000395aLawSeven
namespace Go.Proofs.Qxb6000395a
open Go.RowKit
set_option linter.unusedVariables false

/-- Behind the first loop: the numbers of all codes stand in the row; no code is new. -/
def RelB (ss : List ByteArray) (wc : World) (wr : World) : Prop :=
  KeysAt wr wc.heap.size (Rs wc.heap.size) { St.fresh with C := cds ss ss.length } ∧ Below wc.heap.size wc wr ∧
    wr.rowIs (wc.heap.size + 1) 3 ss.length (fun j => .int .i64 (rank ss ss.length j : Nat))

theorem relB_of {ss : List ByteArray} {wc wr : World} (h : RelA ss wc ss.length wr) : RelB ss wc wr :=
  ⟨h.1, h.2.1, h.2.2.congr (fun i hi => by rw [if_pos hi])⟩

theorem relB_next {ss : List ByteArray} {wc w1 w2 : World} {k : Nat} (h : RelB ss wc w1) (hk : k < ss.length)
    (hp : KeysAt w2 wc.heap.size (Rs wc.heap.size) { St.fresh with C := addC (cds ss ss.length) (gs ss k) }) (hq : Kept (Rs wc.heap.size) w1 w2) : RelB ss wc w2 := by
  rw [addC_old (cds_mem ss _ (Nat.le_refl _) k hk)] at hp
  exact ⟨hp, h.2.1.trans (hq.below (fun j hj => .inl hj)), hq.rowIs h.2.2 (.inr rfl)⟩

/-- The first loop's round: the call, then the store of what it returned. -/
theorem relA_next {ss : List ByteArray} {wc w1 w2 : World} {k : Nat} (h : RelA ss wc k w1) (hk : k < ss.length)
    (hp : KeysAt w2 wc.heap.size (Rs wc.heap.size) { St.fresh with C := addC (cds ss k) (gs ss k) }) (hq : Kept (Rs wc.heap.size) w1 w2) :
    RelA ss wc (k + 1) (w2.setCell ⟨wc.heap.size + 1, k, none⟩ (.int .i64 (idx (cds ss k) (gs ss k) + 1))) := by
  obtain ⟨h1, h2, h3⟩ := h
  have h4 := hq.rowIs h3 (.inr rfl)
  refine ⟨?_, (h2.trans (hq.below (fun j hj => .inl hj))).setCell (by simp) _, (h4.set k _).congr (fun i hi => ?_)⟩
  · rw [cds_succ hk]
    refine hp.of_same (by simp [World.setCell]) (fun j hj hn => Below.heap_setCell _ _ _ _ (fun e => hn (.inr e))) (fun _ _ h => h) (fun j hj => ?_)
    have := hp.2.1 j hj
    simpa [World.setCell] using this
  · by_cases e : i = k
    · subst e
      rw [if_pos rfl, if_pos (by omega), rank_succ hk (Nat.le_refl _)]
      rfl
    · by_cases e2 : i < k
      · rw [if_neg e, if_pos e2, if_pos (by omega), rank_succ hk (by omega)]
      · rw [if_neg e, if_neg e2, if_neg (by omega)]

set_option maxHeartbeats 1000000 in
theorem lawB (a : Option Addr) (ss : List ByteArray) (cap : Nat) (w : World) (h : StrsAt w a ss) (hl : ss.length ≤ maxLen) :
    Calls Try.prog 8 #[.slice a ss.length cap] w (TruePost w) := by
  unfold maxLen at hl
  by_cases h4 : ss.length ≤ 4096
  · go_enter Try.func8, Try.ntmps8
    go_wp2_with fail
    refine (bytes26 a ss cap _ h (by unfold maxLen; omega)).mono ?_
    rintro e w' ⟨r, rfl, rfl, hr⟩
    cases r
    · go_wp2
      go_ret
      exact ⟨rfl, Below.refl _ _⟩
    · have HR : Hid (∀ j, j < ss.length → (gs ss j).size ≤ 1048576) := hr rfl
      clear hr
      go_wp2_with fail
      refine (strBytes a ss cap _ h (by unfold maxLen; omega)).mono ?_
      rintro e w' ⟨⟨x, rfl⟩, rfl⟩
      by_cases hx : 1048576 < x
      · go_wp2
        go_ret
        exact ⟨rfl, Below.refl _ _⟩
      · go_wp2_with fail
        refine (clone12 a ss cap _ h (by omega)).mono ?_
        rintro e wc ⟨a', rfl, hb, hown⟩
        go_wp2_with fail
        refine (new14 _).mono ?_
        rintro e w' ⟨rfl, rfl⟩
        have hmk := run_make_row' (P := Try.prog) 23 3 (.int .i64 0) 8 Try.underlying23 info3 rfl .i64 .i64 ss.length (by omega) (by omega)
        have hst : Hid (RelA ss wc 0 ((wc.alloc (.cells freshCells 49)).alloc (.cells (madeCells #[.int .i64 0] ss.length) 3))) := relA_start ss wc
        have hd1 : decide (4096 < (ss.length : Int)) = false := by simp; omega
        have hd2 : decide (1048576 < x) = false := by simp; omega
        clear h
        go_wp2
        go_loopw [6] (fun i wr => ∃ k : Nat, k ≤ ss.length ∧ i = .int .i64 k ∧ RelA ss wc k wr) (fun i _ => ss.length - (intOf i).toNat)
        case atStart => exact ⟨0, Nat.zero_le _, rfl, hst.out⟩
        case round =>
          obtain ⟨k, hk, rfl, hrel0⟩ := hrel
          clear hst hmk
          have hlen := cds_len ss k hk
          by_cases hlt : k < ss.length
          · obtain ⟨rfl, hrow⟩ := hown (by omega)
            have hNlt : w.heap.size < wc.heap.size := hrow.lt
            have ck : wr.cell? ⟨w.heap.size, k, none⟩ = some (.string (gs ss k)) := (hrel0.2.1.cell (p := ⟨w.heap.size, k, none⟩) hNlt).trans (hrow.cell hlt)
            have hsz := HR.out k hlt
            have hrk := idx_le (cds ss k) (gs ss k)
            clear hown
            go_wp2_with fail
            refine (code25 _ wc.heap.size (Rs wc.heap.size) { St.fresh with C := cds ss k } (gs ss k) hrel0.1 hsz (by simp; omega)).mono ?_
            rintro e w2 ⟨rfl, hk2, hkept⟩
            have rk2 := (hkept.rowIs hrel0.2.2 (.inr rfl)).cell (i := k) hlt
            have fk2 := (hkept.rowIs hrel0.2.2 (.inr rfl)).frozen k
            simp at rk2
            have hnext : Hid _ := relA_next hrel0 hlt hk2 hkept
            clear hrel0 hk2 hkept
            go_wp2
            go_roundw
            case rel => exact ⟨k + 1, by omega, by go_num, hnext.out⟩
            case measure => simp [intOf]; omega
          · obtain rfl : k = ss.length := by omega
            have hB := relB_of hrel0
            clear hrel0 hlen
            go_wp2
            go_loopw [7] (fun i wq => ∃ z : Int, i = .int .i64 z ∧ -1 ≤ z ∧ z < ss.length ∧ RelB ss wc wq) (fun i _ => (intOf i + 1).toNat)
            case atStart => exact ⟨_, rfl, by omega, by omega, hB⟩
            case round =>
              obtain ⟨z, rfl, hz0, hz1, hrq⟩ := hrel
              clear hB
              by_cases hz : 0 ≤ z
              · obtain ⟨k, rfl⟩ := Int.eq_ofNat_of_zero_le hz
                have hlt : k < ss.length := by omega
                obtain ⟨rfl, hrow⟩ := hown (by omega)
                have hNlt : w.heap.size < wc.heap.size := hrow.lt
                have ck2 : wr.cell? ⟨w.heap.size, k, none⟩ = some (.string (gs ss k)) := (hrq.2.1.cell (p := ⟨w.heap.size, k, none⟩) hNlt).trans (hrow.cell hlt)
                have rk2 := hrq.2.2.cell (i := k) hlt
                have ht2 : ((idx (cds ss ss.length) (gs ss k) : Int) + 1 != (rank ss ss.length k : Int)) = false := by unfold rank; simp
                have hsz := HR.out k hlt
                have hlen := cds_len ss ss.length (Nat.le_refl _)
                have HM : Hid (RelB ss wc wr) := hrq
                clear hrq hown
                go_wp2
                go_region_held3 (fun w' => w'.cell? ⟨w.heap.size, k, none⟩ = some (.string (gs ss k)) ∧ w'.cell? ⟨wc.heap.size + 1, k, none⟩ = some (.int .i64 (rank ss ss.length k : Nat)))
                  (first | exact ⟨ck2, rk2⟩ | exact ⟨ck3, rk3⟩)
                  (first | (go_at_call 25; refine (code25 _ wc.heap.size (Rs wc.heap.size) { St.fresh with C := cds ss ss.length } (gs ss k) HM.out.1.drew hsz (by simp; omega)).mono ?_; rintro e w2 ⟨rfl, hk2, hkept⟩; have ck3 := (hkept.cell (p := ⟨w.heap.size, k, none⟩) (.inl hNlt)).trans ck2; have rk3 := (hkept.cell (p := ⟨wc.heap.size + 1, k, none⟩) (.inr rfl)).trans rk2))
                go_wp2
                go_roundw
                case rel => exact ⟨_, rfl, by omega, by omega, relB_next HM.out hlt hk2 hkept.of_drew⟩
                case measure => simp [intOf]
              · go_wp2
                go_ret
                exact ⟨rfl, hb.trans (hrq.2.1.mono hb.size)⟩
  · go_enter Try.func8, Try.ntmps8
    go_wp2_with fail
    refine (bytes26 a ss cap _ h (by unfold maxLen; omega)).mono ?_
    rintro e w' ⟨r, rfl, rfl, hr⟩
    cases r
    · go_wp2
      go_ret
      exact ⟨rfl, Below.refl _ _⟩
    · clear hr
      go_wp2
      go_ret
      exact ⟨rfl, Below.refl _ _⟩

end Go.Proofs.Qxb6000395a
