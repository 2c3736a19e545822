/-
  Seat b6600298a: a slice of bytes that came in, as the walks are told of it.
-/
import Derived.Test.Qxb6600298aBase
namespace Go.Proofs.Qxb6600298a
open Go.ChangeShapes Go.WideShapes Go.ChangeAt Go.RowKit
set_option linter.unusedVariables false

theorem own : ownKnob Try.prog.godebug = none := by kernel_rfl
theorem laidOut : laidOutB Try.prog = true := by kernel_rfl

/-- The bytes of a slice that came in. -/
theorem bytes_in {H : Type} {enc : TypeId × Value → H} {W : World} {a : Option Addr} {len cap : Nat} {d : DataW H} {p : List MemPlace}
    (h : DataW.Trod enc Try.prog W 0 (fun _ => true) true 22 (Value.slice a len cap) d p) :
    ∃ zs : List Int, len = zs.length ∧ BytesAt W a zs ∧ zs.length ≤ maxLen := by
  obtain ⟨fuel, hf⟩ := h
  rcases open_ints Try.underlying22 Try.underlying5 (by kernel_rfl) hf with ⟨hcs, _⟩ | ⟨x, l, c, zs, hcs, _, hl, hm, hz, _, hcell, hws⟩
  · simp [Value.cells] at hcs
    obtain ⟨rfl, rfl, rfl⟩ := hcs
    exact ⟨[], rfl, fun k hk => by simp at hk, Nat.zero_le _⟩
  · simp [Value.cells] at hcs
    obtain ⟨rfl, rfl, rfl⟩ := hcs
    simp at hz
    have hlen : (zs.take len).length = len := by rw [List.length_take]; omega
    refine ⟨zs.take len, hlen.symm, fun k hk => ?_, by rw [hlen]; exact Nat.le_trans hl hm⟩
    rw [hlen] at hk
    have hc := hcell k (by omega)
    obtain ⟨b, off, spot⟩ := x
    have hsp : spot = none := by
      have h0 := hcell 0 (by omega)
      simp only [Addr.add, if_true] at h0
      cases spot with
      | none => rfl
      | some z =>
        exfalso
        unfold World.cell? at h0
        split at h0 <;> simp at h0
    subst hsp
    rw [Addr.add_lit] at hc
    refine ⟨b, off, rfl, World.block_lt_of_cell? W _ hc, ?_⟩
    rw [hc]
    congr 2
    simp [bt, List.getD, hk]

end Go.Proofs.Qxb6600298a
