/-
  Seat b6600298a: zzBreakText, zzHasAt, zzLongestBreakAt, zzCloneBytes: the walks.
-/
import Derived.Test.Qxb6600298aBase
namespace Go.Proofs.Qxb6600298a
open Go.RowKit
set_option linter.unusedVariables false
set_option linter.unusedSimpArgs false

def strOf (p : List UInt8) : ByteArray := ⟨p.toArray⟩
def TextPost (w : World) (k : Nat) (e : Ending) (w' : World) : Prop := e = .returned (.string (strOf (text6 k))) ∧ w = w'

set_option maxHeartbeats 400000 in
theorem text21 (k : Nat) (w : World) (hk : k < 6) : Calls Try.prog 21 #[.int .i64 (k : Int)] w (TextPost w k) := by
  match k, hk with
  | 0, _ => go_enter Try.func21, Try.ntmps21; go_wp2; go_ret; exact ⟨rfl, rfl⟩
  | 1, _ => go_enter Try.func21, Try.ntmps21; go_wp2; go_ret; exact ⟨rfl, rfl⟩
  | 2, _ => go_enter Try.func21, Try.ntmps21; go_wp2; go_ret; exact ⟨rfl, rfl⟩
  | 3, _ => go_enter Try.func21, Try.ntmps21; go_wp2; go_ret; exact ⟨rfl, rfl⟩
  | 4, _ => go_enter Try.func21, Try.ntmps21; go_wp2; go_ret; exact ⟨rfl, rfl⟩
  | 5, _ => go_enter Try.func21, Try.ntmps21; go_wp2; go_ret; exact ⟨rfl, rfl⟩

def HasPost (w : World) (x : Bool) (e : Ending) (w' : World) : Prop := e = .returned (.bool x) ∧ ∃ n, w' = w.drewN n

theorem size_strOf (p : List UInt8) : (strOf p).size = p.length := by
  show p.toArray.size = _
  simp

theorem get_strOf {p : List UInt8} {j : Nat} (h : j < (strOf p).size) : (((strOf p)[j]'h).toNat : Int) = tb p j := by
  have h2 : j < p.length := by rw [← size_strOf]; exact h
  unfold tb
  rw [List.getD, List.getElem?_eq_getElem h2, Option.getD_some]
  rfl

set_option maxHeartbeats 1000000 in
theorem has22 (a : Option Addr) (zs : List Int) (cap i : Nat) (p : List UInt8) (w : World) (h : BytesAt w a zs) (hi : i ≤ zs.length) (hl : zs.length ≤ 1048576) (hp : p.length ≤ 3) :
    Calls Try.prog 22 #[.slice a zs.length cap, .int .i64 (i : Int), .string (strOf p)] w (HasPost w (hasB zs i p)) := by
  have hsz := size_strOf p
  obtain ⟨s, hs⟩ : ∃ s, s = strOf p := ⟨_, rfl⟩
  have hget : ∀ j (hj : j < s.size), ((s[j]'hj).toNat : Int) = tb p j := by subst hs; exact fun j hj => get_strOf hj
  rw [← hs] at hsz ⊢
  have HS : Hid (s.size = p.length) := hsz
  have HG : Hid (∀ j (hj : j < s.size), ((s[j]'hj).toNat : Int) = tb p j) := hget
  have hs3 : s.size ≤ 3 := by omega
  clear hs hget
  by_cases hfit : i + s.size ≤ zs.length
  · clear hsz
    go_enter Try.func22, Try.ntmps22
    go_wp2
    go_loopw [7] (fun q wr => ∃ j m : Nat, j ≤ s.size ∧ q = .int .i64 j ∧ wr = w.drewN m ∧ Hid (∀ t, t < j → bt zs (i + t) = tb p t)) (fun q _ => s.size - (intOf q).toNat)
    case atStart => exact ⟨0, 0, Nat.zero_le _, rfl, rfl, fun t ht => by omega⟩
    case round =>
      obtain ⟨j, m, hj, rfl, rfl, hd⟩ := hrel
      by_cases hlt : j < s.size
      · obtain ⟨b, off, rfl, _, hc⟩ := h (i + j) (by omega)
        have b0 : (0 : Int) ≤ (i : Int) + (j : Int) := by omega
        have b1 : (i : Int) + (j : Int) < (zs.length : Int) := by omega
        have b2 : (0 : Int) ≤ (j : Int) := by omega
        have b3 : (j : Int) < (s.size : Int) := by omega
        clear h
        by_cases heq : bt zs (i + j) = ((s[j]'hlt).toNat : Int)
        · have ht : (bt zs (i + j) != ((s[j]'hlt).toNat : Int)) = false := by rw [heq]; simp
          have HE : Hid _ := heq
          clear heq
          go_wp2
          go_quiet (fail)
          go_wp2
          go_roundw
          case rel => exact ⟨j + 1, _, by omega, by go_num, rfl, fun t ht2 => by
            rcases Nat.lt_or_ge t j with h3 | h3
            · exact hd.out t h3
            · obtain rfl : t = j := by omega
              exact HE.out.trans (HG.out t hlt)⟩
          case measure => simp [intOf]; omega
        · have ht : (bt zs (i + j) != ((s[j]'hlt).toNat : Int)) = true := by rw [bne_iff_ne]; exact heq
          have HX : Hid (hasB zs i p = false) := hasB_false (fun hh => heq (by rw [HG.out j hlt]; exact hh.2 j (by have := HS.out; omega)))
          clear heq
          go_wp2
          go_quiet (fail)
          go_wp2
          go_ret
          exact ⟨by rw [HX.out]; rfl, m + nq, by simp⟩
      · have HX : Hid (hasB zs i p = true) := (hasB_iff zs i p).2 ⟨by have := HS.out; omega, fun t ht => hd.out t (by have := HS.out; omega)⟩
        go_wp2
        go_ret
        exact ⟨by rw [HX.out]; rfl, _, rfl⟩
  · have HX : Hid (hasB zs i p = false) := hasB_false (fun hh => by have := hh.1; have := HS.out; omega)
    clear hsz
    go_enter Try.func22, Try.ntmps22
    go_wp2
    all_goals go_ret
    all_goals exact ⟨by rw [HX.out]; rfl, 0, rfl⟩

def LngPost (w : World) (x : Nat) (e : Ending) (w' : World) : Prop := e = .returned (.int .i64 (x : Int)) ∧ ∃ n, w' = w.drewN n

theorem text6_len (k : Nat) : 1 ≤ (text6 k).length ∧ (text6 k).length ≤ 3 := by
  match k with
  | 0 => simp [text6]
  | 1 => simp [text6]
  | 2 => simp [text6]
  | 3 => simp [text6]
  | 4 => simp [text6]
  | k + 5 => simp [text6]

theorem lngTo_le (zs : List Int) (i : Nat) : ∀ k, lngTo zs i k ≤ 3
  | 0 => by simp [lngTo]
  | k + 1 => by
    simp only [lngTo]
    have := (text6_len k).2
    have := lngTo_le zs i k
    split <;> omega

set_option maxHeartbeats 1000000 in
theorem lng11 (a : Option Addr) (zs : List Int) (cap i : Nat) (w : World) (h : BytesAt w a zs) (hi : i ≤ zs.length) (hl : zs.length ≤ 1048576) :
    Calls Try.prog 11 #[.slice a zs.length cap, .int .i64 (i : Int)] w (LngPost w (lng zs i)) := by
  go_enter Try.func11, Try.ntmps11
  go_wp2
  go_loopw [5, 6] (fun best q wr => ∃ k m : Nat, k ≤ 6 ∧ q = .int .i64 k ∧ best = .int .i64 (lngTo zs i k : Nat) ∧ wr = w.drewN m) (fun _ q _ => 6 - (intOf q).toNat)
  case atStart => exact ⟨0, 0, by omega, rfl, rfl, rfl⟩
  case round =>
    obtain ⟨k, m, hk, rfl, rfl, rfl⟩ := hrel
    have hb3 := lngTo_le zs i k
    by_cases hlt : k < 6
    · have ht3 := text6_len k
      have hsz := size_strOf (text6 k)
      have HN : Hid (lngTo zs i (k + 1) = if lngTo zs i k < (text6 k).length ∧ hasB zs i (text6 k) = true then (text6 k).length else lngTo zs i k) := rfl
      go_wp2_with fail
      refine (text21 k _ hlt).mono ?_
      rintro e w' ⟨rfl, rfl⟩
      by_cases hgt : lngTo zs i k < (text6 k).length
      · have hd1 : decide ((lngTo zs i k : Int) < ((text6 k).length : Int)) = true := decide_eq_true (by omega)
        cases hhb : hasB zs i (text6 k)
        · rw [hhb] at HN
          go_wp2_with (first | (go_at_call 22; refine (has22 a zs cap i (text6 k) _ (h.drewN m) hi hl ht3.2).mono ?_; rintro e w' ⟨rfl, m2, rfl⟩))
          go_roundw
          case rel => exact ⟨k + 1, _, by omega, by go_num, by rw [HN.out, if_neg (fun hh => by cases hh.2)], rfl⟩
          case measure => simp [intOf]; omega
        · rw [hhb] at HN
          go_wp2_with (first | (go_at_call 22; refine (has22 a zs cap i (text6 k) _ (h.drewN m) hi hl ht3.2).mono ?_; rintro e w' ⟨rfl, m2, rfl⟩))
          go_roundw
          case rel => exact ⟨k + 1, _, by omega, by go_num, by rw [HN.out, if_pos ⟨hgt, by trivial⟩], rfl⟩
          case measure => simp [intOf]; omega
      · have hd1 : decide ((lngTo zs i k : Int) < ((text6 k).length : Int)) = false := decide_eq_false (by omega)
        go_wp2
        go_roundw
        case rel => exact ⟨k + 1, _, by omega, by go_num, by rw [HN.out, if_neg (fun hh => hgt hh.1)], rfl⟩
        case measure => simp [intOf]; omega
    · obtain rfl : k = 6 := by omega
      go_wp2
      go_ret
      exact ⟨rfl, _, rfl⟩

theorem info5 : (Try.prog.info? 5).map (fun i => (i.zero, i.size, i.bytes)) = some (some (.int .u8 0), 1, 1) := by kernel_rfl

/-- A row of the call's own, of n bytes, in block G (nil or whatever where n is 0). -/
def ClonePost (w : World) (zs : List Int) (e : Ending) (w' : World) : Prop :=
  ∃ a', e = .returned (.slice a' zs.length zs.length) ∧ Below w.heap.size w w' ∧ (0 < zs.length → a' = some ⟨w.heap.size, 0, none⟩ ∧ w'.rowIs w.heap.size 5 zs.length (fun j => .int .u8 (bt zs j)))

set_option maxHeartbeats 400000 in
/-- zzCloneBytes. -/
theorem clone9 (a : Option Addr) (zs : List Int) (cap : Nat) (w : World) (h : BytesAt w a zs) (hl : zs.length ≤ 1048576) :
    Calls Try.prog 9 #[.slice a zs.length cap] w (ClonePost w zs) := by
  have hnil : ∀ W (a : Option Addr) n c, (binOp .eql 22 (.slice a n c) (.slice none 0 0)).run Try.prog W = .ok (.bool a.isNone) W := fun W a n c => Lib.run_eql_slice_nil W 22 5 a n c 0 0 Try.underlying22
  cases a with
  | none =>
    have h0 : zs.length = 0 := by
      rcases Nat.eq_zero_or_pos zs.length with h1 | h1
      · exact h1
      · obtain ⟨b, off, e, _⟩ := h 0 h1
        cases e
    go_enter Try.func9, Try.ntmps9
    go_wp2
    go_ret
    exact ⟨none, by rw [h0]; rfl, Below.refl _ _, fun hp => by omega⟩
  | some x =>
    have hmk := run_make_row' (P := Try.prog) 22 5 (.int .u8 0) 1 Try.underlying22 info5 rfl .i64 .i64 zs.length (by omega) (by omega)
    have hrow := World.rowIs_made w (.int .u8 0) zs.length 5
    obtain ⟨M, hM⟩ : ∃ M, M = madeCells #[.int .u8 0] zs.length := ⟨_, rfl⟩
    rw [← hM] at hmk hrow
    clear hM
    go_enter Try.func9, Try.ntmps9
    go_wp2
    go_loopw [4] (fun i wr => ∃ k : Nat, k ≤ zs.length ∧ i = .int .i64 k ∧ Below w.heap.size w wr ∧ Hid (wr.rowIs w.heap.size 5 zs.length (fun j => if j < k then .int .u8 (bt zs j) else .int .u8 0))) (fun i _ => zs.length - (intOf i).toNat)
    case atStart => exact ⟨0, Nat.zero_le _, rfl, (Below.refl _ _).alloc (Nat.le_refl _) _, hrow⟩
    case round =>
      obtain ⟨k, hk, rfl, hb, hr⟩ := hrel
      by_cases hlt : k < zs.length
      · obtain ⟨b, off, e, hbl, hc⟩ := h k hlt
        cases e
        have hc' := (hb.cell (p := ⟨b, off + k, none⟩) hbl).trans hc
        have hcell := hr.out.cell hlt
        simp at hcell
        have hfz := hr.out.frozen k
        have hnew := hr.out.set k (.int .u8 (bt zs k))
        have HN : Hid ((wr.setCell ⟨w.heap.size, k, none⟩ (.int .u8 (bt zs k))).rowIs w.heap.size 5 zs.length (fun j => if j < k + 1 then .int .u8 (bt zs j) else .int .u8 0)) := hnew.congr (fun i hi => by
          by_cases e : i = k
          · subst e; simp
          · by_cases e2 : i < k
            · rw [if_neg e, if_pos e2, if_pos (by omega)]
            · rw [if_neg e, if_neg e2, if_neg (by omega)])
        have hbn := hb.setCell (p := ⟨w.heap.size, k, none⟩) (Nat.le_refl _) (.int .u8 (bt zs k))
        have HB : Hid (Below w.heap.size w (wr.setCell ⟨w.heap.size, k, none⟩ (.int .u8 (bt zs k)))) := hbn
        clear hbn hnew hc h hb hmk
        go_wp2
        go_roundw
        case rel => exact ⟨k + 1, by omega, by go_num, HB.out, HN⟩
        case measure => simp [intOf]; omega
      · go_wp2
        go_ret
        exact ⟨_, rfl, hb, fun _ => ⟨rfl, hr.out.congr (fun i hi => by rw [if_pos (by omega)])⟩⟩

theorem bytesAt_of {w w' : World} {a' : Option Addr} {zs : List Int} (h : 0 < zs.length → a' = some ⟨w.heap.size, 0, none⟩ ∧ w'.rowIs w.heap.size 5 zs.length (fun j => .int .u8 (bt zs j))) : BytesAt w' a' zs := fun k hk => by
  obtain ⟨e, hr⟩ := h (by omega)
  exact ⟨w.heap.size, 0, e, hr.lt, by rw [Nat.zero_add]; exact hr.cell hk⟩

end Go.Proofs.Qxb6600298a
