/-
  Seat b6000395a: begin, plainly: the keys begun, with their lines and codes, packed or as they stand. No program is looked at.
-/
import Derived.Test.Qxb6000395aMapsTwo
import Derived.Test.Qxb6000395aPackSeq
namespace Go.Proofs.Qxb6000395a
open Go.RowKit
set_option linter.unusedVariables false
set_option linter.unusedSimpArgs false

/-- A key begun: journal, number; line, code. -/
abbrev Begun := (ByteArray × ByteArray) × (Int × ByteArray)

/-- The entry of the packed map that stands for a key begun. -/
def pkOf (J C : List ByteArray) (h : Begun) : Int × Int :=
  ((keyOf3 (idx J h.1.1) h.1.2.size (valTo h.1.2 h.1.2.size) : Nat), h.2.1 * 65536 + ((idx C h.2.2 + 1 : Nat) : Int))

/-- May it be kept packed? -/
def Fits (J C : List ByteArray) (h : Begun) : Prop :=
  Digs h.1.2 ∧ idx J h.1.1 < J.length ∧ 0 ≤ h.2.1 ∧ h.2.1 < 281474976710656 ∧ idx C h.2.2 < C.length ∧ idx C h.2.2 + 1 < 65536

/-- The state holds just the keys begun, H. -/
structure Beg (s : St) (H : List Begun) : Prop where
  each : ∀ h ∈ H, (Fits s.J s.C h ∧ pkOf s.J s.C h ∈ s.P) ∨ h ∈ s.O
  fromP : ∀ p ∈ s.P, ∃ h ∈ H, Fits s.J s.C h ∧ p = pkOf s.J s.C h
  fromO : ∀ o ∈ s.O, o ∈ H
  once : ∀ h ∈ H, ∀ h' ∈ H, h.1 = h'.1 → h = h'

theorem Beg.fresh : Beg St.fresh [] := ⟨fun h hh => (by cases hh), fun p hp => (by cases hp), fun o ho => (by cases ho), fun h hh => (by cases hh)⟩

theorem fits_addJ {J C : List ByteArray} {h : Begun} (j n : ByteArray) (hf : Fits J C h) : Fits (addJ J j n) C h ∧ pkOf (addJ J j n) C h = pkOf J C h := by
  obtain ⟨h1, h2, h3, h4, h5, h6⟩ := hf
  have e := idx_addJ (j := j) (n := n) h2
  refine ⟨⟨h1, ?_, h3, h4, h5, h6⟩, by unfold pkOf; rw [e]⟩
  rw [e]
  have := (addJ_len J j n).1
  omega

theorem fits_addC {J C : List ByteArray} {h : Begun} (c : ByteArray) (hf : Fits J C h) : Fits J (addC C c) h ∧ pkOf J (addC C c) h = pkOf J C h := by
  obtain ⟨h1, h2, h3, h4, h5, h6⟩ := hf
  have e := idx_addC (c := c) h5
  refine ⟨⟨h1, h2, h3, h4, ?_, ?_⟩, by unfold pkOf; rw [e]⟩
  · rw [e]
    have := (addC_len C c).2
    omega
  · rw [e]; exact h6

theorem Beg.addJ {s : St} {H : List Begun} (b : Beg s H) (j n : ByteArray) : Beg { s with J := addJ s.J j n } H := by
  refine ⟨fun h hh => ?_, fun p hp => ?_, b.fromO, b.once⟩
  · rcases b.each h hh with ⟨h1, h2⟩ | h1
    · have := fits_addJ j n h1
      exact .inl ⟨this.1, by rw [this.2]; exact h2⟩
    · exact .inr h1
  · obtain ⟨h, hh, h1, h2⟩ := b.fromP p hp
    have := fits_addJ j n h1
    exact ⟨h, hh, this.1, by rw [this.2]; exact h2⟩

theorem Beg.addC {s : St} {H : List Begun} (b : Beg s H) (c : ByteArray) (m : Int) : Beg { s with C := addC s.C c, n := m } H := by
  refine ⟨fun h hh => ?_, fun p hp => ?_, b.fromO, b.once⟩
  · rcases b.each h hh with ⟨h1, h2⟩ | h1
    · have := fits_addC c h1
      exact .inl ⟨this.1, by rw [this.2]; exact h2⟩
    · exact .inr h1
  · obtain ⟨h, hh, h1, h2⟩ := b.fromP p hp
    have := fits_addC c h1
    exact ⟨h, hh, this.1, by rw [this.2]; exact h2⟩

theorem look_of_mem {H : List Begun} {h : Begun} (hh : h ∈ H) (once : ∀ h ∈ H, ∀ h' ∈ H, h.1 = h'.1 → h = h') : lookK H h.1 = some h.2 := by
  cases e : lookK H h.1 with
  | none => exact absurd hh (lookK_none e h.2)
  | some v =>
    have := once _ (lookK_mem e) h hh rfl
    rw [← this]

/-- A packed entry found: it is the key's own. -/
theorem Beg.packed {s : St} {H : List Begun} (b : Beg s H) {j n : ByteArray} {v : Int} (hp : packs s.J j n = true) (hl : lookK s.P (keyFor s.J j n : Nat) = some v) :
    ∃ l c, lookK H (j, n) = some (l, c) ∧ v = l * 65536 + ((idx s.C c + 1 : Nat) : Int) ∧ 0 ≤ l ∧ l < 281474976710656 ∧ idx s.C c < s.C.length ∧ idx s.C c + 1 < 65536 := by
  obtain ⟨h, hh, ⟨h1, h2, h3, h4, h5, h6⟩, he⟩ := b.fromP _ (lookK_mem hl)
  obtain ⟨⟨hj, hn⟩, l, c⟩ := h
  simp only [pkOf, Prod.mk.injEq] at he
  have dn : Digs n := by
    unfold packs at hp
    simp only [Bool.and_eq_true] at hp
    exact (digsB_iff _).1 hp.1
  have hk : keyFor s.J j n = keyOf3 (idx s.J j) n.size (valTo n n.size) := by unfold keyFor; rw [if_pos hp]
  rw [hk] at he
  have v1 := valTo_small (s := n) dn.2.1 dn.2.2
  have v2 := valTo_small (s := hn) h1.2.1 h1.2.2
  obtain ⟨e1, e2, e3⟩ := keyOf3_inj (by have := dn.2.1; omega) (by have := h1.2.1; simp only [] at this; omega) v1 v2 (Int.ofNat_inj.1 he.1)
  have ej : hj = j := idx_inj h2 e1.symm
  have en : hn = n := digs_inj h1 dn e2.symm e3.symm
  subst ej
  subst en
  exact ⟨l, c, look_of_mem hh b.once, he.2, h3, h4, h5, h6⟩

theorem Beg.other {s : St} {H : List Begun} (b : Beg s H) {j n : ByteArray} {v : Int × ByteArray} (hl : lookK s.O (j, n) = some v) : lookK H (j, n) = some v :=
  look_of_mem (h := ((j, n), v)) (b.fromO _ (lookK_mem hl)) b.once

theorem Beg.new {s : St} {H : List Begun} (b : Beg s H) {j n : ByteArray} (hp : packs s.J j n = true → lookK s.P (keyFor s.J j n : Nat) = none) (ho : lookK s.O (j, n) = none) : lookK H (j, n) = none := by
  cases e : lookK H (j, n) with
  | none => rfl
  | some v =>
    exfalso
    rcases b.each _ (lookK_mem e) with ⟨⟨h1, h2, h3⟩, h4⟩ | h1
    · have hpk : packs s.J j n = true := by
        unfold packs
        rw [(digsB_iff n).2 h1, decide_eq_true h2]
        rfl
      have hk : keyFor s.J j n = keyOf3 (idx s.J j) n.size (valTo n n.size) := by unfold keyFor; rw [if_pos hpk]
      exact lookK_none (hp hpk) _ (by rw [hk]; exact h4)
    · exact lookK_none ho _ h1

theorem once_snoc {H : List Begun} {h0 : Begun} (once : ∀ h ∈ H, ∀ h' ∈ H, h.1 = h'.1 → h = h') (hn : lookK H h0.1 = none) : ∀ h ∈ H ++ [h0], ∀ h' ∈ H ++ [h0], h.1 = h'.1 → h = h' := by
  intro h hh h' hh' e
  simp only [List.mem_append, List.mem_singleton] at hh hh'
  rcases hh with hh | rfl
  · rcases hh' with hh' | rfl
    · exact once h hh h' hh' e
    · exact absurd (by rw [← e]; exact hh) (lookK_none hn h.2)
  · rcases hh' with hh' | rfl
    · exact absurd (by rw [e]; exact hh') (lookK_none hn h'.2)
    · rfl

/-- A key begun packed. -/
theorem Beg.putP {s : St} {H : List Begun} (b : Beg s H) {h0 : Begun} (hn : lookK H h0.1 = none) (hf : Fits s.J s.C h0) {k v : Int} (hk : (k, v) = pkOf s.J s.C h0) : Beg { s with P := s.P ++ [(k, v)] } (H ++ [h0]) := by
  refine ⟨fun h hh => ?_, fun p hp => ?_, fun o ho => List.mem_append_left _ (b.fromO o ho), once_snoc b.once hn⟩
  · simp only [List.mem_append, List.mem_singleton] at hh
    rcases hh with hh | rfl
    · rcases b.each h hh with ⟨h1, h2⟩ | h1
      · exact .inl ⟨h1, List.mem_append_left _ h2⟩
      · exact .inr h1
    · exact .inl ⟨hf, by rw [← hk]; simp⟩
  · simp only [List.mem_append, List.mem_singleton] at hp
    rcases hp with hp | rfl
    · obtain ⟨h, hh, h1, h2⟩ := b.fromP p hp
      exact ⟨h, List.mem_append_left _ hh, h1, h2⟩
    · exact ⟨h0, by simp, hf, hk⟩

/-- A key begun as it stands. -/
theorem Beg.putO {s : St} {H : List Begun} (b : Beg s H) {h0 : Begun} (hn : lookK H h0.1 = none) : Beg { s with O := s.O ++ [h0] } (H ++ [h0]) := by
  refine ⟨fun h hh => ?_, fun p hp => ?_, fun o ho => ?_, once_snoc b.once hn⟩
  · simp only [List.mem_append, List.mem_singleton] at hh
    rcases hh with hh | rfl
    · rcases b.each h hh with ⟨h1, h2⟩ | h1
      · exact .inl ⟨h1, h2⟩
      · exact .inr (List.mem_append_left _ h1)
    · exact .inr (by simp)
  · obtain ⟨h, hh, h1, h2⟩ := b.fromP p hp
    exact ⟨h, List.mem_append_left _ hh, h1, h2⟩
  · simp only [List.mem_append, List.mem_singleton] at ho ⊢
    rcases ho with ho | rfl
    · exact .inl (b.fromO o ho)
    · exact .inr rfl

end Go.Proofs.Qxb6000395a
