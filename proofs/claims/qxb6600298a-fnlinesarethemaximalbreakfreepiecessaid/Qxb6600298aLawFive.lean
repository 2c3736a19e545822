/-
  Seat b6600298a: FnLinesAreTheMaximalBreakFreePieces: the walk.
-/
import Derived.Test.Qxb6600298aLines
namespace Go.Proofs.Qxb6600298a
open Go.RowKit
set_option linter.unusedVariables false
set_option linter.unusedSimpArgs false

set_option maxHeartbeats 400000 in
theorem bytes13 (a : Option Addr) (n cap : Nat) (w : World) (hl : n ≤ maxLen) : Calls Try.prog 13 #[.slice a n cap] w (BoolPost w) := by
  unfold maxLen at hl
  go_enter Try.func13, Try.ntmps13
  go_wp2
  all_goals go_ret
  all_goals exact ⟨⟨_, rfl⟩, rfl⟩

set_option maxHeartbeats 400000 in
theorem lines14 (a : Option Addr) (zs : List Int) (w : World) (h : BytesAt w a zs) (hl : zs.length ≤ 65536) :
    Calls Try.prog 14 #[.slice a zs.length zs.length] w (LinesPost w a zs) := by
  go_enter Try.func14, Try.ntmps14
  go_wp2_with fail
  refine (lines23 a zs _ h hl).mono ?_
  rintro e w' ⟨fs, g, cap, rfl, h1, h2⟩
  go_wp2
  go_ret
  exact ⟨fs, g, cap, rfl, h1, h2⟩

theorem addr_add {b off s : Nat} : (⟨b, off, none⟩ : Addr).add s = ⟨b, off + s, none⟩ := Addr.add_lit _ _ _

/-- A piece's bytes. -/
theorem bytes_piece {w : World} {a : Option Addr} {zs : List Int} {p : Nat × Nat} (h : BytesAt w a zs) (hp : PieceOk zs p) : BytesAt w (pa a zs.length p.1) (sub zs p) := fun k hk => by
  rw [sub_len hp] at hk
  have h1 := hp.1
  have h2 := hp.2.1
  obtain ⟨b, off, rfl, hlt, hc⟩ := h (p.1 + k) (by omega)
  refine ⟨b, off + p.1, ?_, hlt, ?_⟩
  · unfold pa
    rw [if_neg (by omega), Option.map_some, addr_add]
  · rw [bt_sub hp hk, Nat.add_assoc]
    exact hc

def ZeroPost (w : World) (e : Ending) (w' : World) : Prop := e = .returned (.int .i64 0) ∧ ∃ n, w' = w.drewN n

theorem lng_piece (a A : Option Addr) (zs : List Int) (s l C j : Nat) (w : World) (h : BytesAt w a zs) (hp : PieceOk zs (s, s + l)) (hA : pa a zs.length s = A) (hl : zs.length ≤ 65536) (hj : j < l) :
    Calls Try.prog 11 #[.slice A l C, .int .i64 (j : Int)] w (ZeroPost w) := by
  subst hA
  have hlen := sub_len hp
  have h2 : s + l ≤ zs.length := hp.2.1
  have e : (s, s + l).2 - (s, s + l).1 = l := by show s + l - s = l; omega
  rw [e] at hlen
  have := lng11 (pa a zs.length s) (sub zs (s, s + l)) C j w (bytes_piece h hp) (by omega) (by omega)
  rw [hlen, lng_sub hp (by rw [e]; exact hj)] at this
  refine this.mono ?_
  rintro e w' ⟨rfl, n, rfl⟩
  exact ⟨rfl, n, rfl⟩

theorem lng_at (a : Option Addr) (zs : List Int) (i nb : Nat) (x : Int) (w : World) (h : BytesAt w a zs) (hi : i < zs.length) (hl : zs.length ≤ 65536) (hx : x = (i : Int)) (hn : brk zs i = nb) :
    Calls Try.prog 11 #[.slice a zs.length zs.length, .int .i64 x] w (LngPost w nb) := by
  subst hx
  subst hn
  rw [brk_eq_lng hi]
  exact lng11 a zs zs.length i w h (by omega) (by omega)

/-- Where the i-th piece begins; the text's end behind the last. -/
def sta (fs : List (Nat × Nat)) (n i : Nat) : Nat := if i < fs.length then (pc fs i).1 else n

theorem row_at {w wl : World} {a : Option Addr} {n g cap : Nat} {fs : List (Nat × Nat)} (h : RelL w a n (.slice (some ⟨g, 0, none⟩) fs.length cap) fs wl) {i : Nat} (hi : i < fs.length) : wl.cell? ⟨g, i, none⟩ = some (pv a n (pc fs i)) := by
  have := h.2.cells (g := g) rfl i (pv a n (pc fs i)) (by simp [pc, List.getD, hi])
  rw [Addr.add_lit] at this
  simpa using this

set_option maxRecDepth 100000 in
set_option maxHeartbeats 2000000 in
theorem lawL (a : Option Addr) (zs : List Int) (cap : Nat) (w : World) (h : BytesAt w a zs) (hl : zs.length ≤ maxLen) :
    Calls Try.prog 5 #[.slice a zs.length cap] w (TruePost w) := by
  go_enter Try.func5, Try.ntmps5
  go_wp2_with fail
  refine (bytes13 a zs.length cap _ hl).mono ?_
  rintro e w' ⟨⟨r, rfl⟩, rfl⟩
  unfold maxLen at hl
  cases r
  · go_wp2
    go_ret
    exact ⟨rfl, Below.refl _ _⟩
  · by_cases h6 : zs.length ≤ 65536
    · go_wp2_with fail
      refine (clone9 a zs cap _ h (by omega)).mono ?_
      rintro e wc ⟨a', rfl, hb, hown⟩
      have hB0 := bytesAt_of hown
      clear hown
      go_wp2_with fail
      refine (lines14 a' zs _ hB0 h6).mono ?_
      rintro e wl ⟨fs, g, cap', rfl, HLO, HRL⟩
      have HO : Hid (LinesOk zs fs) := HLO
      have HR : Hid _ := HRL
      have hB : BytesAt wl a' zs := hB0.below HRL.1
      have HB : Hid (Below w.heap.size w wl) := hb.trans (HRL.1.mono hb.size)
      have f1 : 0 < fs.length := HLO.1
      have f2 : fs.length ≤ zs.length + 1 := HLO.2.1
      have HS0 : Hid (sta fs zs.length 0 = 0) := by show sta fs zs.length 0 = 0; unfold sta; rw [if_pos f1]; exact HLO.2.2.1
      clear hB0 hb HLO HRL h
      have t0 : ((fs.length : Int) == 0) = false := beq_eq_false_iff_ne.2 (by omega)
      go_wp2
      go_loopw [4, 5] (fun x i wr => ∃ k m : Nat, k ≤ fs.length ∧ i = .int .i64 k ∧ x = .int .i64 (sta fs zs.length k : Nat) ∧ wr = wl.drewN m) (fun _ i _ => fs.length - (intOf i).toNat)
      case atStart => exact ⟨0, 0, Nat.zero_le _, rfl, by rw [HS0.out]; rfl, rfl⟩
      case round =>
        obtain ⟨k, m, hk, rfl, rfl, rfl⟩ := hrel
        clear HS0
        by_cases hlt : k < fs.length
        · have hp := HO.out.2.2.2.1 k hlt
          have hcell := row_at HR.out hlt
          have hsta : sta fs zs.length k = (pc fs k).1 := by unfold sta; rw [if_pos hlt]
          rw [hsta]
          clear hsta
          obtain ⟨s, hs⟩ : ∃ s, (pc fs k).1 = s := ⟨_, rfl⟩
          obtain ⟨l, hl2⟩ : ∃ l, (pc fs k).2 = s + l := ⟨(pc fs k).2 - s, by have := hp.1; omega⟩
          have hpc : pc fs k = (s, s + l) := by rw [← hl2, ← hs]
          rw [hpc] at hp hcell
          rw [hs]
          obtain ⟨A, hA⟩ : ∃ A, pa a' zs.length s = A := ⟨_, rfl⟩
          obtain ⟨C, hC⟩ : ∃ C, zs.length - s = C := ⟨_, rfl⟩
          have hc6 : wl.cell? ⟨g, k, none⟩ = some (.slice A l C) := by
            rw [hcell]
            show some (Value.slice (pa a' zs.length s) (s + l - s) (zs.length - s)) = _
            rw [hA, hC, Nat.add_sub_cancel_left]
          have hsl : s + l ≤ zs.length := hp.2.1
          have HP : Hid (PieceOk zs (s, s + l)) := hp
          have HA : Hid (pa a' zs.length s = A) := hA
          have HPC : Hid (pc fs k = (s, s + l)) := hpc
          have HBy : Hid (BytesAt wl a' zs) := hB
          clear hcell hA hC hp hs hl2 hpc hB
          have b0 : (0 : Int) ≤ (k : Int) := by omega
          have b1 : (k : Int) < (fs.length : Int) := by omega
          go_wp2
          go_loopw [7] (fun x wr => ∃ j m : Nat, j ≤ l ∧ x = .int .i64 j ∧ wr = wl.drewN m) (fun x _ => l - (intOf x).toNat)
          case atStart => exact ⟨0, _, Nat.zero_le _, rfl, rfl⟩
          case round =>
            obtain ⟨j, m1, hj, rfl, rfl⟩ := hrel
            by_cases hjl : j < l
            · go_wp2_with fail
              refine (lng_piece a' A zs s l C j _ (HBy.out.drewN m1) HP.out HA.out h6 hjl).mono ?_
              rintro e w' ⟨rfl, m2, rfl⟩
              go_wp2
              go_roundw
              case rel => exact ⟨j + 1, m1 + m2, by omega, by go_num, by simp⟩
              case measure => simp [intOf]; omega
            · have t1 : decide ((zs.length : Int) - (s : Int) < (l : Int)) = false := decide_eq_false (by omega)
              go_wp2
              go_loopw [8] (fun x wr => ∃ j m : Nat, j ≤ l ∧ x = .int .i64 j ∧ wr = wl.drewN m) (fun x _ => l - (intOf x).toNat)
              case atStart => exact ⟨0, _, Nat.zero_le _, rfl, rfl⟩
              case round =>
                obtain ⟨i, m3, hi, rfl, rfl⟩ := hrel
                by_cases hil : i < l
                · obtain ⟨b, off, rfl, _, hc⟩ := HBy.out (s + i) (by omega)
                  have hAe : A = some ⟨b, off + s, none⟩ := by
                    rw [← HA.out]
                    unfold pa
                    rw [if_neg (by omega), Option.map_some, addr_add]
                  subst hAe
                  have hc2 : wl.cell? ⟨b, off + s + i, none⟩ = some (.int .u8 (bt zs (s + i))) := by rw [Nat.add_assoc]; exact hc
                  have b2 : (0 : Int) ≤ (s : Int) + (i : Int) := by omega
                  have b3 : (s : Int) + (i : Int) < (zs.length : Int) := by omega
                  have b4 : (0 : Int) ≤ (i : Int) := by omega
                  have b5 : (i : Int) < (l : Int) := by omega
                  have t2 : (bt zs (s + i) != bt zs (s + i)) = false := by simp
                  clear HBy HA
                  go_wp2
                  go_quiet (fail)
                  go_wp2
                  go_roundw
                  case rel => exact ⟨i + 1, m3 + nq, by omega, by go_num, by simp⟩
                  case measure => simp [intOf]; omega
                · by_cases hlast : k + 1 < fs.length
                  · obtain ⟨q1, q2, q3⟩ := HO.out.2.2.2.2.1 k hlast
                    rw [HPC.out] at q1 q2 q3
                    have q1' : s + l < zs.length := q1
                    obtain ⟨nb, hnb⟩ : ∃ nb, brk zs (s + l) = nb := ⟨_, rfl⟩
                    have q2' : 0 < nb := by rw [← hnb]; exact q2
                    have q3' : (pc fs (k + 1)).1 = s + l + nb := by rw [← hnb]; exact q3
                    have hb3 := brk_le q1'
                    rw [hnb] at hb3
                    have HQ : Hid (sta fs zs.length (k + 1) = s + l + nb) := by show sta fs zs.length (k + 1) = _; unfold sta; rw [if_pos hlast]; exact q3'
                    clear q1 q2 q3 q3'
                    have t3 : decide ((k : Int) < (fs.length : Int) - 1) = true := decide_eq_true (by omega)
                    have t4 : ((nb : Int) == 0) = false := beq_eq_false_iff_ne.2 (by omega)
                    go_wp2_with fail
                    refine (lng_at a' zs (s + l) nb _ _ (HBy.out.drewN m3) q1' h6 (by omega) hnb).mono ?_
                    rintro e w' ⟨rfl, m4, rfl⟩
                    go_wp2
                    go_roundw
                    case rel => exact ⟨k + 1, m3 + m4, by omega, by go_num, by rw [HQ.out]; go_num, by simp⟩
                    case measure => simp [intOf]; omega
                  · have q4 := HO.out.2.2.2.2.2 k (by omega)
                    rw [HPC.out] at q4
                    have q4' : s + l = zs.length := q4
                    have HQ : Hid (sta fs zs.length (k + 1) = s + l) := by show sta fs zs.length (k + 1) = _; unfold sta; rw [if_neg hlast]; exact q4'.symm
                    clear q4
                    have t3 : decide ((k : Int) < (fs.length : Int) - 1) = false := decide_eq_false (by omega)
                    go_wp2
                    go_roundw
                    case rel => exact ⟨k + 1, m3, by omega, by go_num, by rw [HQ.out]; go_num, rfl⟩
                    case measure => simp [intOf]; omega
        · have hsta : sta fs zs.length k = zs.length := by unfold sta; rw [if_neg hlt]
          rw [hsta]
          clear hsta
          have t5 : ((zs.length : Int) == (zs.length : Int)) = true := beq_iff_eq.2 rfl
          go_wp2
          go_ret
          exact ⟨by simp, below_drewN HB.out _⟩
    · go_wp2
      go_ret
      exact ⟨rfl, Below.refl _ _⟩

end Go.Proofs.Qxb6600298a
