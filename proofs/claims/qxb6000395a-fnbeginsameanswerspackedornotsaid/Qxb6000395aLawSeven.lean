/-
  Seat b6000395a: FnCodeNumberIsFirstMetRank: the walk.
-/
import Derived.Test.Qxb6000395aRank
namespace Go.Proofs.Qxb6000395a
open Go.RowKit
set_option linter.unusedVariables false

/-- True is returned, and nothing that was there has turned. -/
def TruePost (w : World) (e : Ending) (w' : World) : Prop := e = .returned (.bool true) ∧ Below w.heap.size w w'

/-- The blocks that are not the keys': all below N, and N + 1. -/
def Rs (N : Nat) : Nat → Prop := fun k => k < N ∨ k = N + 1

/-- Before the k-th round. -/
def RelA (ss : List ByteArray) (wc : World) (k : Nat) (wr : World) : Prop :=
  KeysAt wr wc.heap.size (Rs wc.heap.size) { St.fresh with C := cds ss k } ∧ Below wc.heap.size wc wr ∧
    wr.rowIs (wc.heap.size + 1) 3 ss.length (fun j => if j < k then .int .i64 (rank ss k j : Nat) else .int .i64 0)

/-- Behind the store of the k-th rank. -/
def MidA (ss : List ByteArray) (wc : World) (k : Nat) (wr : World) : Prop :=
  KeysAt wr wc.heap.size (Rs wc.heap.size) { St.fresh with C := cds ss k } ∧ Below wc.heap.size wc wr ∧
    wr.rowIs (wc.heap.size + 1) 3 ss.length (fun j => if j < k + 1 then .int .i64 (rank ss k j : Nat) else .int .i64 0)

theorem relA_start (ss : List ByteArray) (wc : World) : RelA ss wc 0 ((wc.alloc (.cells freshCells 49)).alloc (.cells (madeCells #[.int .i64 0] ss.length) 3)) := by
  have h0 := KeysAt.made wc (fun k => k < wc.heap.size) (fun k h => h)
  refine ⟨?_, ((Below.refl _ _).alloc (Nat.le_refl _) _).alloc (by simp) _, ?_⟩
  · rw [cds_zero]
    refine h0.of_same (by simp) (fun k hk _ => Below.heap_alloc _ _ _ hk) (fun k hk hn hr => ?_) (fun k hk => ?_)
    · simp at hk
      rcases hr with hr | hr <;> omega
    · rcases hk with hk | hk <;> simp <;> omega
  · have := World.rowIs_made (wc.alloc (.cells freshCells 49)) (.int .i64 0) ss.length 3
    simp at this
    exact this.congr (fun i hi => by simp)

theorem relA_drew {ss : List ByteArray} {wc wr : World} {k : Nat} (h : RelA ss wc k wr) (n : Nat) : RelA ss wc k (wr.drewN n) := ⟨h.1, ⟨h.2.1.os, h.2.1.tape, h.2.1.output, h.2.1.size, h.2.1.block⟩, h.2.2⟩

theorem midA_of {ss : List ByteArray} {wc wr : World} {k : Nat} (h : RelA ss wc k wr) (hk : k < ss.length) :
    MidA ss wc k (wr.setCell ⟨wc.heap.size + 1, k, none⟩ (.int .i64 (rank ss k k : Nat))) := by
  obtain ⟨h1, h2, h3⟩ := h
  refine ⟨?_, h2.setCell (by simp) _, (h3.set k _).congr (fun i hi => ?_)⟩
  · refine h1.of_same (by simp [World.setCell]) (fun j hj hn => Below.heap_setCell _ _ _ _ (fun e => hn (.inr e))) (fun _ _ h => h) (fun j hj => ?_)
    have := h1.2.1 j hj
    simpa [World.setCell] using this
  · by_cases e : i = k
    · subst e; simp
    · by_cases e2 : i < k
      · rw [if_neg e, if_pos e2, if_pos (by omega)]
      · rw [if_neg e, if_neg e2, if_neg (by omega)]

theorem relA_of {ss : List ByteArray} {wc w1 w2 : World} {k : Nat} (h : MidA ss wc k w1) (hk : k < ss.length)
    (hp : KeysAt w2 wc.heap.size (Rs wc.heap.size) { St.fresh with C := addC (cds ss k) (gs ss k) } ∧ Kept (Rs wc.heap.size) w1 w2) : RelA ss wc (k + 1) w2 := by
  obtain ⟨h1, h2, h3⟩ := h
  refine ⟨by rw [cds_succ hk]; exact hp.1, h2.trans (hp.2.below (fun j hj => .inl hj)), (hp.2.rowIs h3 (.inr rfl)).congr (fun i hi => ?_)⟩
  by_cases e : i < k + 1
  · rw [if_pos e, if_pos e, rank_succ hk (by omega)]
  · rw [if_neg e, if_neg e]

theorem Kept.of_drew {R : Nat → Prop} {a b : World} (h : Kept R a.drew b) : Kept R a b := ⟨h.os, h.tape, h.output, h.size, h.block⟩
theorem addC_old {C : List ByteArray} {c : ByteArray} (h : idx C c < C.length) : addC C c = C := by unfold addC; rw [if_pos h]
theorem addC_new {C : List ByteArray} {c : ByteArray} (h : idx C c = C.length) : addC C c = C ++ [c] := by unfold addC; rw [if_neg (by omega)]

set_option maxHeartbeats 1000000 in
theorem lawA (a : Option Addr) (ss : List ByteArray) (cap : Nat) (w : World) (h : StrsAt w a ss) (hl : ss.length ≤ maxLen) :
    Calls Try.prog 7 #[.slice a ss.length cap] w (TruePost w) := by
  unfold maxLen at hl
  by_cases h4 : ss.length ≤ 4096
  · go_enter Try.func7, Try.ntmps7
    go_wp2_with fail
    refine (bytes24 a ss cap _ h (by unfold maxLen; omega)).mono ?_
    rintro e w' ⟨r, rfl, rfl, hr⟩
    cases r
    · go_wp2
      go_ret
      exact ⟨rfl, Below.refl _ _⟩
    · have HR : Hid (∀ j, j < ss.length → (gs ss j).size ≤ 1048576) := hr rfl
      clear hr
      go_wp2_with fail
      refine (strBytes a ss cap _ h (by unfold maxLen; omega)).mono ?_
      rintro e w' ⟨⟨x, rfl⟩, rfl⟩
      by_cases hx : 1048576 < x
      · go_wp2
        go_ret
        exact ⟨rfl, Below.refl _ _⟩
      · go_wp2_with fail
        refine (clone12 a ss cap _ h (by omega)).mono ?_
        rintro e wc ⟨a', rfl, hb, hown⟩
        go_wp2_with fail
        refine (new14 _).mono ?_
        rintro e w' ⟨rfl, rfl⟩
        have hmk := run_make_row' (P := Try.prog) 23 3 (.int .i64 0) 8 Try.underlying23 info3 rfl .i64 .i64 ss.length (by omega) (by omega)
        have hst : Hid (RelA ss wc 0 ((wc.alloc (.cells freshCells 49)).alloc (.cells (madeCells #[.int .i64 0] ss.length) 3))) := relA_start ss wc
        have hd1 : decide (4096 < (ss.length : Int)) = false := by simp; omega
        have hd2 : decide (1048576 < x) = false := by simp; omega
        clear h
        go_wp2
        go_loopw [6, 7] (fun d i wr => ∃ k : Nat, k ≤ ss.length ∧ i = .int .i64 k ∧ d = .int .i64 (cds ss k).length ∧ RelA ss wc k wr) (fun _ i _ => ss.length - (intOf i).toNat)
        case atStart => exact ⟨0, Nat.zero_le _, rfl, rfl, hst.out⟩
        case round =>
          obtain ⟨k, hk, rfl, rfl, hrel0⟩ := hrel
          clear hst hmk
          have hlen := cds_len ss k hk
          by_cases hlt : k < ss.length
          · obtain ⟨rfl, hrow⟩ := hown (by omega)
            have hNlt : w.heap.size < wc.heap.size := hrow.lt
            have hkn : (k : Int) < (ss.length : Int) := by omega
            have hk0 : (0 : Int) ≤ (k : Int) := by omega
            clear hown
            go_wp2
            go_loopw [8, 9] (fun p q wq => ∃ j : Nat, j ≤ k ∧ q = .int .i64 j ∧ p = .int .i64 k ∧ RelA ss wc k wq ∧ Hid (∀ i, i < j → gs ss i ≠ gs ss k)) (fun _ q _ => k - (intOf q).toNat)
            case atStart => exact ⟨0, Nat.zero_le _, rfl, rfl, hrel0, fun i hi => by omega⟩
            case round =>
              obtain ⟨j, hj, rfl, rfl, hrq, hne⟩ := hrel
              clear hrel0
              have ck : wr.cell? ⟨w.heap.size, k, none⟩ = some (.string (gs ss k)) := (hrq.2.1.cell (p := ⟨w.heap.size, k, none⟩) hNlt).trans (hrow.cell hlt)
              by_cases hjk : j < k
              · have cj : wr.cell? ⟨w.heap.size, j, none⟩ = some (.string (gs ss j)) := (hrq.2.1.cell (p := ⟨w.heap.size, j, none⟩) hNlt).trans (hrow.cell (by omega))
                have hj0 : (0 : Int) ≤ (j : Int) := by omega
                have hj1 : (j : Int) < (ss.length : Int) := by omega
                have hjk' : ((j : Int) == (k : Int)) = false := by simp; omega
                by_cases he : gs ss j = gs ss k
                · have ht := str_eq.2 he
                  have HE : Hid (gs ss j = gs ss k) := he
                  clear he
                  have rj := hrq.2.2.cell (i := j) (by omega)
                  have rk := hrq.2.2.cell (i := k) hlt
                  simp [hjk] at rj rk
                  have fk := hrq.2.2.frozen k
                  go_wp2
                  go_quiet (fail)
                  go_wp2_with fail
                  have hmid := midA_of (relA_drew hrq nq) hlt
                  have er : rank ss k k = rank ss k j := by unfold rank; rw [HE.out]
                  rw [er] at hmid
                  clear rj rk fk er ck cj ht
                  generalize (wr.drewN nq).setCell ⟨wc.heap.size + 1, k, none⟩ (Value.int .i64 (rank ss k j : Nat)) = wm at hmid ⊢
                  have ck2 : wm.cell? ⟨w.heap.size, k, none⟩ = some (.string (gs ss k)) := (hmid.2.1.cell (p := ⟨w.heap.size, k, none⟩) hNlt).trans (hrow.cell hlt)
                  have rk2 := hmid.2.2.cell (i := k) hlt
                  simp only [Nat.lt_succ_self, if_true] at rk2
                  have ht2 : ((idx (cds ss k) (gs ss k) : Int) + 1 != (rank ss k k : Int)) = false := by unfold rank; simp
                  have hsz := HR.out k hlt
                  have HM : Hid (MidA ss wc k wm) := hmid
                  clear hmid hrq
                  go_region_held3 (fun w' => w'.cell? ⟨w.heap.size, k, none⟩ = some (.string (gs ss k)) ∧ w'.cell? ⟨wc.heap.size + 1, k, none⟩ = some (.int .i64 (rank ss k k : Nat)))
                    (first | exact ⟨ck2, rk2⟩ | exact ⟨ck3, rk3⟩)
                    (first | (go_at_call 25; refine (code25 _ wc.heap.size (Rs wc.heap.size) { St.fresh with C := cds ss k } (gs ss k) HM.out.1.drew hsz (by simp; omega)).mono ?_; rintro e w2 ⟨rfl, hk2, hkept⟩; have ck3 := (hkept.cell (p := ⟨w.heap.size, k, none⟩) (.inl hNlt)).trans ck2; have rk3 := (hkept.cell (p := ⟨wc.heap.size + 1, k, none⟩) (.inr rfl)).trans rk2))
                  go_wp2
                  go_roundw
                  case rel => exact ⟨k + 1, by omega, by go_num, by rw [cds_succ hlt, addC_old (by rw [← HE.out]; exact cds_mem ss k hk j hjk)], relA_of HM.out hlt ⟨hk2, hkept.of_drew⟩⟩
                  case measure => simp [intOf]; omega
                · have ht := str_ne.2 he
                  have HE : Hid (gs ss j ≠ gs ss k) := he
                  clear he
                  go_wp2
                  go_quiet (fail)
                  go_wp2
                  go_roundw
                  case rel => exact ⟨j + 1, by omega, by go_num, rfl, relA_drew hrq _, fun i hi => by
                    rcases Nat.lt_or_ge i j with h3 | h3
                    · exact hne.out i h3
                    · obtain rfl : i = j := by omega
                      exact HE.out⟩
                  case measure => simp [intOf]; omega
              · obtain rfl : j = k := by omega
                have rk := hrq.2.2.cell (i := j) hlt
                simp at rk
                have fk := hrq.2.2.frozen j
                have hi := idx_new hlt hne.out
                have HI : Hid (idx (cds ss j) (gs ss j) = (cds ss j).length) := hi
                clear hi
                go_wp2_with fail
                have hmid := midA_of hrq hlt
                have er : ((rank ss j j : Nat) : Int) = (cds ss j).length + 1 := by unfold rank; rw [HI.out]; omega
                rw [er] at hmid
                clear rk fk er ck
                generalize wr.setCell ⟨wc.heap.size + 1, j, none⟩ (Value.int .i64 ((cds ss j).length + 1)) = wm at hmid ⊢
                have ck2 : wm.cell? ⟨w.heap.size, j, none⟩ = some (.string (gs ss j)) := (hmid.2.1.cell (p := ⟨w.heap.size, j, none⟩) hNlt).trans (hrow.cell hlt)
                have rk2 := hmid.2.2.cell (i := j) hlt
                simp only [Nat.lt_succ_self, if_true] at rk2
                have ht2 : ((idx (cds ss j) (gs ss j) : Int) + 1 != (rank ss j j : Int)) = false := by unfold rank; simp
                have hsz := HR.out j hlt
                have HM : Hid (MidA ss wc j wm) := hmid
                clear hmid hrq
                go_region_held3 (fun w' => w'.cell? ⟨w.heap.size, j, none⟩ = some (.string (gs ss j)) ∧ w'.cell? ⟨wc.heap.size + 1, j, none⟩ = some (.int .i64 (rank ss j j : Nat)))
                  (first | exact ⟨ck2, rk2⟩ | exact ⟨ck3, rk3⟩)
                  (first | (go_at_call 25; refine (code25 _ wc.heap.size (Rs wc.heap.size) { St.fresh with C := cds ss j } (gs ss j) HM.out.1.drew hsz (by simp; omega)).mono ?_; rintro e w2 ⟨rfl, hk2, hkept⟩; have ck3 := (hkept.cell (p := ⟨w.heap.size, j, none⟩) (.inl hNlt)).trans ck2; have rk3 := (hkept.cell (p := ⟨wc.heap.size + 1, j, none⟩) (.inr rfl)).trans rk2))
                go_wp2
                go_roundw
                case rel => exact ⟨j + 1, by omega, by go_num, by rw [cds_succ hlt, addC_new HI.out]; simp, relA_of HM.out hlt ⟨hk2, hkept.of_drew⟩⟩
                case measure => simp [intOf]; omega
          · go_wp2
            go_ret
            exact ⟨rfl, hb.trans (hrel0.2.1.mono hb.size)⟩
  · go_enter Try.func7, Try.ntmps7
    go_wp2_with fail
    refine (bytes24 a ss cap _ h (by unfold maxLen; omega)).mono ?_
    rintro e w' ⟨r, rfl, rfl, hr⟩
    cases r
    · go_wp2
      go_ret
      exact ⟨rfl, Below.refl _ _⟩
    · clear hr
      go_wp2
      go_ret
      exact ⟨rfl, Below.refl _ _⟩

end Go.Proofs.Qxb6000395a
