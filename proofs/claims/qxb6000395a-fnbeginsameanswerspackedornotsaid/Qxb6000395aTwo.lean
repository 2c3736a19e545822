/-
  Seat b6000395a: two documentKeys side by side: a begin on one keeps the other.
-/
import Derived.Test.Qxb6000395aLawThree
namespace Go.Proofs.Qxb6000395a
open Go.RowKit
set_option linter.unusedVariables false
set_option linter.unusedSimpArgs false

/-- The keys at K hold H. -/
def Held (wr : World) (K : Nat) (R : Nat → Prop) (m : Nat) (H : List Begun) : Prop := ∃ s, KeysAt wr K R s ∧ s.J.length ≤ 1024 ∧ s.C.length ≤ m ∧ Beg s H

/-- Two keys; R1 has the blocks that are not the first's, R2 those that are not the second's; the caller's blocks, below B, are no one's. -/
def Two (w0 wr : World) (B K1 K2 : Nat) (R1 R2 : Nat → Prop) (m1 m2 : Nat) (H1 H2 : List Begun) : Prop :=
  Below B w0 wr ∧ Held wr K1 R1 m1 H1 ∧ Held wr K2 R2 m2 H2 ∧ (∀ k, k < wr.heap.size → R1 k ∨ R2 k) ∧ (∀ k, k < B → R1 k ∧ R2 k)

theorem Two.swap {w0 wr : World} {B K1 K2 : Nat} {R1 R2 : Nat → Prop} {m1 m2 : Nat} {H1 H2 : List Begun} (h : Two w0 wr B K1 K2 R1 R2 m1 m2 H1 H2) : Two w0 wr B K2 K1 R2 R1 m2 m1 H2 H1 :=
  ⟨h.1, h.2.2.1, h.2.1, fun k hk => (h.2.2.2.1 k hk).symm, fun k hk => ⟨(h.2.2.2.2 k hk).2, (h.2.2.2.2 k hk).1⟩⟩

theorem Held.lt {wr : World} {K : Nat} {R : Nat → Prop} {m : Nat} {H : List Begun} (h : Held wr K R m H) : ∀ k, R k → k < wr.heap.size := by
  obtain ⟨s, hs, _⟩ := h
  exact hs.2.1

/-- What R becomes where the other has made blocks. -/
def grown (R : Nat → Prop) (a b : Nat) : Nat → Prop := fun k => k < b ∧ (R k ∨ a ≤ k)

theorem Two.first {w0 wr wx : World} {B K1 K2 : Nat} {R1 R2 : Nat → Prop} {m1 m2 : Nat} {H1 H2 H1' : List Begun} (h : Two w0 wr B K1 K2 R1 R2 m1 m2 H1 H2) (hk : Kept R1 wr wx) (h1 : Held wx K1 R1 (m1 + 1) H1') :
    Two w0 wx B K1 K2 R1 (grown R2 wr.heap.size wx.heap.size) (m1 + 1) m2 H1' H2 := by
  obtain ⟨hb, _, ⟨s2, k2, j2, c2, b2⟩, hcov, hown⟩ := h
  have hsz := hk.size
  refine ⟨hb.trans (hk.below (fun k hk' => (hown k hk').1)), h1, ⟨s2, k2.of_same hk.size (fun k hk1 hk2 => hk.block k ((hcov k hk1).resolve_right hk2)) (fun k hk1 hk2 h9 => ?_) (fun k h9 => h9.1), j2, c2, b2⟩, fun k hk1 => ?_, fun k hk1 => ?_⟩
  · rcases h9.2 with h8 | h8
    · exact hk2 h8
    · omega
  · rcases Nat.lt_or_ge k wr.heap.size with h9 | h9
    · rcases hcov k h9 with h8 | h8
      · exact .inl h8
      · exact .inr ⟨hk1, .inl h8⟩
    · exact .inr ⟨hk1, .inr h9⟩
  · have h7 := hown k hk1
    exact ⟨h7.1, by have := k2.2.1 k h7.2; omega, .inl h7.2⟩

theorem Two.second {w0 wr wx : World} {B K1 K2 : Nat} {R1 R2 : Nat → Prop} {m1 m2 : Nat} {H1 H2 H2' : List Begun} (h : Two w0 wr B K1 K2 R1 R2 m1 m2 H1 H2) (hk : Kept R2 wr wx) (h1 : Held wx K2 R2 (m2 + 1) H2') :
    Two w0 wx B K1 K2 (grown R1 wr.heap.size wx.heap.size) R2 m1 (m2 + 1) H1 H2' := (h.swap.first hk h1).swap

theorem Two.start (w : World) : ∃ R1 R2, Two w ((w.alloc (.cells freshCells 49)).alloc (.cells freshCells 49)) w.heap.size w.heap.size (w.heap.size + 1) R1 R2 0 0 [] [] := by
  have e1 : (w.alloc (.cells freshCells 49)).heap.size = w.heap.size + 1 := by simp
  have e2 : ((w.alloc (.cells freshCells 49)).alloc (.cells freshCells 49)).heap.size = w.heap.size + 2 := by simp
  have hb2 : Below (w.alloc (.cells freshCells 49)).heap.size (w.alloc (.cells freshCells 49)) ((w.alloc (.cells freshCells 49)).alloc (.cells freshCells 49)) := (Below.refl _ _).alloc (Nat.le_refl _) _
  have hb1 : Below w.heap.size w (w.alloc (.cells freshCells 49)) := (Below.refl _ _).alloc (Nat.le_refl _) _
  have hfar := KeysAt.made (w.alloc (.cells freshCells 49)) (fun k => k < w.heap.size + 1) (fun k hk => by rw [e1]; exact hk)
  rw [e1] at hfar
  have hnear := (KeysAt.made w (fun k => k < w.heap.size) (fun k hk => hk)).of_same (w' := (w.alloc (.cells freshCells 49)).alloc (.cells freshCells 49)) (R' := fun k => k < w.heap.size ∨ k = w.heap.size + 1) hb2.size
    (fun k hk _ => hb2.block k hk) (fun k hk h1 h2 => by rw [e1] at hk; omega) (fun k hk => by rw [e2]; omega)
  refine ⟨_, _, hb1.trans (hb2.mono (by rw [e1]; omega)), ⟨St.fresh, hnear, Nat.zero_le _, Nat.zero_le _, Beg.fresh⟩, ⟨St.fresh, hfar, Nat.zero_le _, Nat.zero_le _, Beg.fresh⟩, fun k hk => ?_, fun k hk => ⟨.inl hk, by show k < w.heap.size + 1; omega⟩⟩
  show (k < w.heap.size ∨ k = w.heap.size + 1) ∨ k < w.heap.size + 1
  rw [e2] at hk
  omega

theorem Two.drew {w0 wr : World} {B K1 K2 : Nat} {R1 R2 : Nat → Prop} {m1 m2 : Nat} {H1 H2 : List Begun} (h : Two w0 wr B K1 K2 R1 R2 m1 m2 H1 H2) : Two w0 wr.drew B K1 K2 R1 R2 m1 m2 H1 H2 :=
  ⟨⟨h.1.os, h.1.tape, h.1.output, h.1.size, h.1.block⟩, h.2⟩

/-- The line as the far keys get it. -/
def fl (ls : List Int) (k : Nat) : Int := gi ls k + 281474976710656

end Go.Proofs.Qxb6000395a
