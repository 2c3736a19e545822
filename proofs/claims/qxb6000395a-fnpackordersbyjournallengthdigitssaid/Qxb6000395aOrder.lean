/-
  Seat b6000395a: the order of packed keys; the three compare functions; zzBytes_ of four strings.
-/
import Derived.Test.Qxb6000395aSmall
namespace Go.Proofs.Qxb6000395a
open Go.RowKit
set_option linter.unusedVariables false
set_option linter.unusedSimpArgs false

/-- -1, 0, 1 as a is less than, equal to, more than b. -/
def cmpI (a b : Int) : Int := if a < b then -1 else if b < a then 1 else 0

def CmpPost (w : World) (x : Int) (e : Ending) (w' : World) : Prop := e = .returned (.int .i64 x) ∧ w = w'

theorem cmp_lt {a b : Int} (h : a < b) : cmpI a b = -1 := by unfold cmpI; rw [if_pos h]
theorem cmp_gt {a b : Int} (h : b < a) : cmpI a b = 1 := by unfold cmpI; rw [if_neg (by omega), if_pos h]
theorem cmp_eq {a b : Int} (h : a = b) : cmpI a b = 0 := by unfold cmpI; rw [if_neg (by omega), if_neg (by omega)]

set_option maxHeartbeats 400000 in
theorem cmp21 (a b : Int) (w : World) : Calls Try.prog 21 #[.int .i64 a, .int .i64 b] w (CmpPost w (cmpI a b)) := by
  by_cases h1 : a < b
  · have HX : Hid _ := cmp_lt h1
    go_enter Try.func21, Try.ntmps21
    go_wp2
    go_ret
    exact ⟨by rw [HX.out]; rfl, rfl⟩
  · by_cases h2 : b < a
    · have HX : Hid _ := cmp_gt h2
      go_enter Try.func21, Try.ntmps21
      go_wp2
      go_ret
      exact ⟨by rw [HX.out]; rfl, rfl⟩
    · have HX : Hid _ := cmp_eq (show a = b by omega)
      go_enter Try.func21, Try.ntmps21
      go_wp2
      go_ret
      exact ⟨by rw [HX.out]; rfl, rfl⟩

set_option maxHeartbeats 400000 in
theorem cmp23 (a b : Int) (w : World) : Calls Try.prog 23 #[.int .u64 a, .int .u64 b] w (CmpPost w (cmpI a b)) := by
  by_cases h1 : a < b
  · have HX : Hid _ := cmp_lt h1
    go_enter Try.func23, Try.ntmps23
    go_wp2
    go_ret
    exact ⟨by rw [HX.out]; rfl, rfl⟩
  · by_cases h2 : b < a
    · have HX : Hid _ := cmp_gt h2
      go_enter Try.func23, Try.ntmps23
      go_wp2
      go_ret
      exact ⟨by rw [HX.out]; rfl, rfl⟩
    · have HX : Hid _ := cmp_eq (show a = b by omega)
      go_enter Try.func23, Try.ntmps23
      go_wp2
      go_ret
      exact ⟨by rw [HX.out]; rfl, rfl⟩

/-- Two numbers of the same length, both of digits: byte by byte they stand as their values do. -/
theorem val_prefix {a b : ByteArray} : ∀ k, (∀ j, j < k → byteAt a j = byteAt b j) → valTo a k = valTo b k
  | 0, _ => rfl
  | k + 1, h => by
    simp only [valTo]
    rw [val_prefix k (fun j hj => h j (by omega)), h k (by omega)]

theorem val_less {a b : ByteArray} {k : Nat} (heq : ∀ j, j < k → byteAt a j = byteAt b j) (hlt : byteAt a k < byteAt b k) : ∀ d, (∀ j, j < k + 1 + d → isDig a j) → (∀ j, j < k + 1 + d → isDig b j) → valTo a (k + 1 + d) < valTo b (k + 1 + d)
  | 0, ha, hb => by
    have h1 := ha k (by omega)
    have h2 := hb k (by omega)
    unfold isDig at h1 h2
    simp only [Nat.add_zero, valTo]
    rw [val_prefix k heq]
    omega
  | d + 1, ha, hb => by
    have ih := val_less heq hlt d (fun j hj => ha j (by omega)) (fun j hj => hb j (by omega))
    have h1 := ha (k + 1 + d) (by omega)
    have h2 := hb (k + 1 + d) (by omega)
    unfold isDig at h1 h2
    have e1 : valTo a (k + 1 + (d + 1)) = valTo a (k + 1 + d) * 10 + (byteAt a (k + 1 + d) - 48) := rfl
    have e2 : valTo b (k + 1 + (d + 1)) = valTo b (k + 1 + d) * 10 + (byteAt b (k + 1 + d) - 48) := rfl
    rw [e1, e2]
    omega

/-- What zzCompareStrings_b1 returns of two strings of one length. -/
def CmpSPost (w : World) (a b : ByteArray) (e : Ending) (w' : World) : Prop :=
  (∃ x : Int, e = .returned (.int .i64 x) ∧ ((x = -1 ∧ ∃ k, k < a.size ∧ (∀ j, j < k → byteAt a j = byteAt b j) ∧ byteAt a k < byteAt b k) ∨
    (x = 1 ∧ ∃ k, k < a.size ∧ (∀ j, j < k → byteAt a j = byteAt b j) ∧ byteAt b k < byteAt a k) ∨ (x = 0 ∧ ∀ j, j < a.size → byteAt a j = byteAt b j))) ∧ ∃ n, w' = w.drewN n

theorem drew3 (w : World) (a b c : Nat) : ∃ n, ((w.drewN a).drewN b).drewN c = w.drewN n := ⟨a + b + c, by simp⟩

set_option maxHeartbeats 1000000 in
theorem cmp22 (a b : ByteArray) (w : World) (hs : a.size = b.size) (hl : a.size ≤ 1048576) : Calls Try.prog 22 #[.string a, .string b] w (CmpSPost w a b) := by
  have HS : Hid (a.size = b.size) := hs
  have hle : a.size ≤ b.size := by omega
  have hle2 : b.size ≤ 1048576 := by omega
  have HM : Hid (min a.size b.size = a.size) := by show min a.size b.size = a.size; omega
  clear hs
  go_enter Try.func22, Try.ntmps22
  go_wp2_with fail
  refine (min11 a.size b.size _).mono ?_
  rintro e w' ⟨rfl, rfl⟩
  rw [HM.out]
  go_wp2
  go_loopw [6] (fun i wr => ∃ k m : Nat, k ≤ a.size ∧ i = .int .i64 k ∧ wr = w.drewN m ∧ Hid (∀ j, j < k → byteAt a j = byteAt b j)) (fun i _ => a.size - (intOf i).toNat)
  case atStart => exact ⟨0, 0, Nat.zero_le _, rfl, rfl, fun j hj => by omega⟩
  case round =>
    obtain ⟨k, m, hk, rfl, rfl, hd⟩ := hrel
    by_cases hlt : k < a.size
    · have hltb : k < b.size := by omega
      have ha := byteAt_get hlt
      have hb := byteAt_get hltb
      have HA : Hid _ := ha
      have HB : Hid _ := hb
      have b0 : (0 : Int) ≤ (k : Int) := by omega
      have b1 : (k : Int) < (a.size : Int) := by omega
      have b2 : (k : Int) < (b.size : Int) := by omega
      clear ha hb
      rcases Nat.lt_trichotomy (a[k]'hlt).toNat (b[k]'hltb).toNat with h1 | h1 | h1
      · have ht : decide (((a[k]'hlt).toNat : Int) < ((b[k]'hltb).toNat : Int)) = true := decide_eq_true (by omega)
        have h1' : ((a[k]'hlt).toNat : Int) < ((b[k]'hltb).toNat : Int) := by omega
        go_wp2
        go_quiet (fail)
        go_wp2
        go_ret
        exact ⟨⟨_, rfl, .inl ⟨rfl, k, hlt, hd.out, by rw [← HA.out, ← HB.out]; exact h1⟩⟩, m + nq, by simp⟩
      · have ht : decide (((a[k]'hlt).toNat : Int) < ((b[k]'hltb).toNat : Int)) = false := decide_eq_false (by omega)
        have ht2 : decide (((b[k]'hltb).toNat : Int) < ((a[k]'hlt).toNat : Int)) = false := decide_eq_false (by omega)
        have HE : Hid _ := h1
        have hge1 : ((b[k]'hltb).toNat : Int) ≤ ((a[k]'hlt).toNat : Int) := by omega
        have hge2 : ((a[k]'hlt).toNat : Int) ≤ ((b[k]'hltb).toNat : Int) := by omega
        clear h1
        go_wp2
        go_quiet (fail)
        go_wp2
        go_quiet (fail)
        go_wp2
        go_roundw
        case rel => exact ⟨k + 1, _, by omega, by go_num, rfl, fun j hj => by
          rcases Nat.lt_or_ge j k with h3 | h3
          · exact hd.out j h3
          · obtain rfl : j = k := by omega
            rw [← HA.out, ← HB.out]
            exact HE.out⟩
        case measure => simp [intOf]; omega
      · have ht : decide (((a[k]'hlt).toNat : Int) < ((b[k]'hltb).toNat : Int)) = false := decide_eq_false (by omega)
        have ht2 : decide (((b[k]'hltb).toNat : Int) < ((a[k]'hlt).toNat : Int)) = true := decide_eq_true (by omega)
        have hge1 : ((b[k]'hltb).toNat : Int) < ((a[k]'hlt).toNat : Int) := by omega
        go_wp2
        go_quiet (fail)
        go_wp2
        go_quiet (fail)
        go_wp2
        go_ret
        exact ⟨⟨_, rfl, .inr (.inl ⟨rfl, k, hlt, hd.out, by rw [← HA.out, ← HB.out]; exact h1⟩)⟩, drew3 _ _ _ _⟩
    · go_wp2_with fail
      refine (cmp21 (a.size : Int) (b.size : Int) _).mono ?_
      rintro e w' ⟨rfl, rfl⟩
      go_wp2
      go_ret
      exact ⟨⟨_, rfl, .inr (.inr ⟨cmp_eq (by rw [HS.out]), fun j hj => hd.out j (by omega)⟩)⟩, _, rfl⟩

def FourPost (w : World) (e : Ending) (w' : World) : Prop := (∃ r : Bool, e = .returned (.bool r)) ∧ w = w'

set_option maxHeartbeats 400000 in
theorem bytes20 (a b c d : ByteArray) (w : World) (ha : a.size ≤ maxLen) (hb : b.size ≤ maxLen) (hc : c.size ≤ maxLen) (hd : d.size ≤ maxLen) :
    Calls Try.prog 20 #[.string a, .string b, .string c, .string d] w (FourPost w) := by
  unfold maxLen at ha hb hc hd
  go_enter Try.func20, Try.ntmps20
  go_wp2
  all_goals go_ret
  all_goals exact ⟨⟨_, rfl⟩, rfl⟩

/-- What the law wants: by the journal first met first, then the shorter number, then the number's digits. -/
theorem key_order {j1 n1 j2 n2 : ByteArray} (d1 : Digs n1) (d2 : Digs n2) :
    keyFor [] j1 n1 = keyOf3 0 n1.size (valTo n1 n1.size) ∧ keyFor (addJ [] j1 n1) j2 n2 = keyOf3 (if j1 = j2 then 0 else 1) n2.size (valTo n2 n2.size) ∧ packs [] j1 n1 = true ∧ packs (addJ [] j1 n1) j2 n2 = true := by
  have b1 := (digsB_iff n1).2 d1
  have b2 := (digsB_iff n2).2 d2
  have p1 : packs [] j1 n1 = true := by unfold packs; rw [b1]; simp
  have a1 : addJ [] j1 n1 = [j1] := by
    unfold addJ
    rw [if_pos p1]
    unfold addC idx
    simp
  have i2 : idx [j1] j2 = if j1 = j2 then 0 else 1 := by
    unfold idx
    rw [List.findIdx_cons]
    by_cases e : j1 = j2 <;> simp [e]
  have p2 : packs [j1] j2 n2 = true := by unfold packs; rw [b2]; simp
  rw [a1]
  refine ⟨?_, ?_, p1, p2⟩
  · unfold keyFor
    rw [if_pos p1]
    rfl
  · unfold keyFor
    rw [if_pos p2, i2]

theorem key_less {j n v j' n' v' : Nat} (hn : n < 16) (hn' : n' < 16) (hv : v < 1000000000000000) (hv' : v' < 1000000000000000) (h : j < j' ∨ (j = j' ∧ (n < n' ∨ (n = n' ∧ v < v')))) : keyOf3 j n v < keyOf3 j' n' v' := by
  unfold keyOf3
  omega

end Go.Proofs.Qxb6000395a
