/-
  Seat b6000395a: FnPackOrdersByJournalLengthDigits: the walk.
-/
import Derived.Test.Qxb6000395aOrder
namespace Go.Proofs.Qxb6000395a
open Go.RowKit
set_option linter.unusedVariables false
set_option linter.unusedSimpArgs false

theorem below_drewN {B : Nat} {a w : World} (h : Below B a w) (n : Nat) : Below B a (w.drewN n) := ⟨h.os, h.tape, h.output, h.size, h.block⟩

theorem packs_few {J : List ByteArray} {j n : ByteArray} (h : J.length ≤ 1) : packs J j n = digsB n := by
  unfold packs
  rw [decide_eq_false (show ¬ J.length = 1024 by omega)]
  simp

theorem cmpS_law {n1 n2 : ByteArray} {a b : Nat} {x : Int} (D1 : Digs n1) (D2 : Digs n2) (hs : n1.size = n2.size) (ha : a = keyOf3 0 n1.size (valTo n1 n1.size)) (hb : b = keyOf3 0 n2.size (valTo n2 n2.size))
    (hx : (x = -1 ∧ ∃ k, k < n1.size ∧ (∀ j, j < k → byteAt n1 j = byteAt n2 j) ∧ byteAt n1 k < byteAt n2 k) ∨
      (x = 1 ∧ ∃ k, k < n1.size ∧ (∀ j, j < k → byteAt n1 j = byteAt n2 j) ∧ byteAt n2 k < byteAt n1 k) ∨ (x = 0 ∧ ∀ j, j < n1.size → byteAt n1 j = byteAt n2 j)) :
    cmpI (a : Int) (b : Int) = x := by
  have v1 := valTo_small (s := n1) D1.2.1 D1.2.2
  have v2 := valTo_small (s := n2) D2.2.1 D2.2.2
  have z1 := D1.2.1
  have z2 := D2.2.1
  rcases hx with ⟨rfl, k, hk, he, hl⟩ | ⟨rfl, k, hk, he, hl⟩ | ⟨rfl, he⟩
  · have h := val_less he hl (n1.size - (k + 1)) (fun j hj => D1.2.2 j (by omega)) (fun j hj => D2.2.2 j (by omega))
    rw [show k + 1 + (n1.size - (k + 1)) = n1.size from by omega] at h
    have h2 := key_less (j := 0) (j' := 0) (n := n1.size) (n' := n2.size) (by omega) (by omega) v1 v2 (.inr ⟨rfl, .inr ⟨hs, by rw [← hs]; exact h⟩⟩)
    exact cmp_lt (by omega)
  · have h := val_less (a := n2) (b := n1) (fun j hj => (he j hj).symm) hl (n1.size - (k + 1)) (fun j hj => D2.2.2 j (by omega)) (fun j hj => D1.2.2 j (by omega))
    rw [show k + 1 + (n1.size - (k + 1)) = n1.size from by omega] at h
    have h2 := key_less (j := 0) (j' := 0) (n := n2.size) (n' := n1.size) (by omega) (by omega) v2 v1 (.inr ⟨rfl, .inr ⟨hs.symm, by rw [← hs]; exact h⟩⟩)
    exact cmp_gt (by omega)
  · have h := val_prefix n1.size he
    refine cmp_eq ?_
    rw [ha, hb, ← hs, h]

set_option maxRecDepth 100000 in
set_option maxHeartbeats 2000000 in
theorem lawO (j1 n1 j2 n2 : ByteArray) (w : World) (h1 : j1.size ≤ maxLen) (h2 : n1.size ≤ maxLen) (h3 : j2.size ≤ maxLen) (h4 : n2.size ≤ maxLen) :
    Calls Try.prog 6 #[.string j1, .string n1, .string j2, .string n2] w (TruePost w) := by
  go_enter Try.func6, Try.ntmps6
  go_wp2_with fail
  refine (bytes20 j1 n1 j2 n2 _ h1 h2 h3 h4).mono ?_
  rintro e w' ⟨⟨r, rfl⟩, rfl⟩
  unfold maxLen at h1 h2 h3 h4
  cases r
  · go_wp2
    go_ret
    exact ⟨rfl, Below.refl _ _⟩
  · by_cases s1 : j1.size ≤ 1048576
    · by_cases s2 : n1.size ≤ 1048576
      · by_cases s3 : j2.size ≤ 1048576
        · by_cases s4 : n2.size ≤ 1048576
          · by_cases s5 : (j1.size : Int) + (n1.size : Int) + (j2.size : Int) + (n2.size : Int) ≤ 1048576
            · have p1 : packs [] j1 n1 = digsB n1 := packs_few (by simp)
              have p2 : packs (addJ [] j1 n1) j2 n2 = digsB n2 := packs_few (by have := (addJ_len [] j1 n1).2; simpa using this)
              have hl1 : (addJ [] j1 n1).length ≤ 1024 := by have := (addJ_len [] j1 n1).2; simp at this; omega
              have HP1 : Hid _ := p1
              have HP2 : Hid _ := p2
              clear p1 p2
              go_wp2_with fail
              refine (new14 _).mono ?_
              rintro e w' ⟨rfl, rfl⟩
              have hK0 : KeysAt (w.alloc (.cells freshCells 49)) w.heap.size (fun k => k < w.heap.size) { St.fresh with J := [] } := KeysAt.made w _ (fun k hk => hk)
              have hb0 : Below w.heap.size w (w.alloc (.cells freshCells 49)) := (Below.refl _ _).alloc (Nat.le_refl _) _
              go_wp2_with fail
              refine (pack18 _ w.heap.size (fun k => k < w.heap.size) { St.fresh with J := [] } j1 n1 hK0 s1 s2 (by simp)).mono ?_
              rintro e w1 ⟨rfl, hK1, hk1⟩
              go_wp2_with fail
              refine (pack18 _ w.heap.size (fun k => k < w.heap.size) { St.fresh with J := addJ [] j1 n1 } j2 n2 hK1 s3 s4 hl1).mono ?_
              rintro e w2 ⟨rfl, hK2, hk2⟩
              have HB : Hid (Below w.heap.size w w2) := hb0.trans ((hk1.trans hk2).below (fun k hk => hk))
              clear hK0 hK1 hK2 hk1 hk2 hb0
              go_wp2_with fail
              refine (digits19 n1 _ s2).mono ?_
              rintro e w' ⟨rfl, rfl⟩
              cases hd1 : digsB n1
              · have q1 : packs [] j1 n1 = false := HP1.out.trans hd1
                have q2 := HP2.out
                go_wp2_with (first | (go_at_call 19; refine (digits19 n2 _ s4).mono ?_; rintro e w' ⟨rfl, rfl⟩))
                all_goals go_ret
                all_goals exact ⟨rfl, HB.out⟩
              · have q1 : packs [] j1 n1 = true := HP1.out.trans hd1
                cases hd2 : digsB n2
                · have q2 : packs (addJ [] j1 n1) j2 n2 = false := HP2.out.trans hd2
                  go_wp2_with (first | (go_at_call 19; refine (digits19 n2 _ s4).mono ?_; rintro e w' ⟨rfl, rfl⟩))
                  all_goals go_ret
                  all_goals exact ⟨rfl, HB.out⟩
                · have q2 : packs (addJ [] j1 n1) j2 n2 = true := HP2.out.trans hd2
                  have D1 := (digsB_iff n1).1 hd1
                  have D2 := (digsB_iff n2).1 hd2
                  obtain ⟨k1, k2, _, _⟩ := key_order (j1 := j1) (j2 := j2) D1 D2
                  have v1 := valTo_small (s := n1) D1.2.1 D1.2.2
                  have v2 := valTo_small (s := n2) D2.2.1 D2.2.2
                  have z1 := D1.2.1
                  have z2 := D2.2.1
                  by_cases hj : j1 = j2
                  · have tj := str_eq.2 hj
                    rw [if_pos hj] at k2
                    have c00 : cmpI 0 0 = 0 := rfl
                    rcases Nat.lt_trichotomy n1.size n2.size with hn | hn | hn
                    · have cn : cmpI (n1.size : Int) (n2.size : Int) = -1 := cmp_lt (by omega)
                      have ck : cmpI (keyFor [] j1 n1 : Nat) (keyFor (addJ [] j1 n1) j2 n2 : Nat) = -1 := cmp_lt (by have := key_less (j := 0) (j' := 0) (n := n1.size) (n' := n2.size) (by omega) (by omega) v1 v2 (.inr ⟨rfl, .inl hn⟩); rw [k1, k2]; omega)
                      clear k1 k2 hj D1 D2 v1 v2
                      go_wp2_with (first | (go_at_call 19; refine (digits19 n2 _ s4).mono ?_; rintro e w' ⟨rfl, rfl⟩) | (go_at_call 21; refine (cmp21 _ _ _).mono ?_; rintro e w' ⟨rfl, rfl⟩) | (go_at_call 23; refine (cmp23 _ _ _).mono ?_; rintro e w' ⟨rfl, rfl⟩))
                      all_goals go_ret
                      all_goals exact ⟨rfl, HB.out⟩
                    · have cn : cmpI (n1.size : Int) (n2.size : Int) = 0 := cmp_eq (by omega)
                      have HN : Hid _ := hn
                      have HL : Hid _ := fun (x : Int) hx => cmpS_law (x := x) D1 D2 hn k1 k2 hx
                      clear k1 k2 hj D1 D2 v1 v2 hn
                      go_wp2_with (first | (go_at_call 19; refine (digits19 n2 _ s4).mono ?_; rintro e w' ⟨rfl, rfl⟩) | (go_at_call 21; refine (cmp21 _ _ _).mono ?_; rintro e w' ⟨rfl, rfl⟩) | (go_at_call 22; refine (cmp22 n1 n2 _ HN.out s2).mono ?_; rintro e w' ⟨⟨x, rfl, hx⟩, m, rfl⟩; have ck := HL.out x hx; clear hx) | (go_at_call 23; refine (cmp23 _ _ _).mono ?_; rintro e w' ⟨rfl, rfl⟩))
                      all_goals go_ret
                      all_goals exact ⟨by simp, below_drewN HB.out _⟩
                    · have cn : cmpI (n1.size : Int) (n2.size : Int) = 1 := cmp_gt (by omega)
                      have ck : cmpI (keyFor [] j1 n1 : Nat) (keyFor (addJ [] j1 n1) j2 n2 : Nat) = 1 := cmp_gt (by have := key_less (j := 0) (j' := 0) (n := n2.size) (n' := n1.size) (by omega) (by omega) v2 v1 (.inr ⟨rfl, .inl hn⟩); rw [k1, k2]; omega)
                      clear k1 k2 hj D1 D2 v1 v2
                      go_wp2_with (first | (go_at_call 19; refine (digits19 n2 _ s4).mono ?_; rintro e w' ⟨rfl, rfl⟩) | (go_at_call 21; refine (cmp21 _ _ _).mono ?_; rintro e w' ⟨rfl, rfl⟩) | (go_at_call 23; refine (cmp23 _ _ _).mono ?_; rintro e w' ⟨rfl, rfl⟩))
                      all_goals go_ret
                      all_goals exact ⟨rfl, HB.out⟩
                  · have tj := str_ne.2 hj
                    rw [if_neg hj] at k2
                    have c01 : cmpI 0 1 = -1 := rfl
                    have ck : cmpI (keyFor [] j1 n1 : Nat) (keyFor (addJ [] j1 n1) j2 n2 : Nat) = -1 := cmp_lt (by have := key_less (j := 0) (j' := 1) (n := n1.size) (n' := n2.size) (by omega) (by omega) v1 v2 (.inl (by omega)); rw [k1, k2]; omega)
                    clear k1 k2 hj D1 D2 v1 v2
                    go_wp2_with (first | (go_at_call 19; refine (digits19 n2 _ s4).mono ?_; rintro e w' ⟨rfl, rfl⟩) | (go_at_call 21; refine (cmp21 _ _ _).mono ?_; rintro e w' ⟨rfl, rfl⟩) | (go_at_call 23; refine (cmp23 _ _ _).mono ?_; rintro e w' ⟨rfl, rfl⟩))
                    all_goals go_ret
                    all_goals exact ⟨rfl, HB.out⟩
            · go_wp2
              go_ret
              exact ⟨rfl, Below.refl _ _⟩
          · go_wp2
            go_ret
            exact ⟨rfl, Below.refl _ _⟩
        · go_wp2
          go_ret
          exact ⟨rfl, Below.refl _ _⟩
      · go_wp2
        go_ret
        exact ⟨rfl, Below.refl _ _⟩
    · go_wp2
      go_ret
      exact ⟨rfl, Below.refl _ _⟩

end Go.Proofs.Qxb6000395a
