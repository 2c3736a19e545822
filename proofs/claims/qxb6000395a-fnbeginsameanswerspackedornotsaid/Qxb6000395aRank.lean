/-
  Seat b6000395a: a fresh documentKeys; ZZCodeNumber; the plain law on first-met ranks.
-/
import Derived.Test.Qxb6000395aKeys
namespace Go.Proofs.Qxb6000395a
open Go.RowKit
set_option linter.unusedVariables false

/-- What a fresh documentKeys holds. -/
def St.fresh : St := { J := [], C := [], P := [], O := [], n := 0 }

/-- The five cells of a fresh documentKeys. -/
def freshCells : Array Value := #[.map none, .slice none 0 0, .map none, .map none, .int .i64 0]

theorem KeysAt.made (w : World) (R : Nat → Prop) (hR : ∀ k, R k → k < w.heap.size) : KeysAt (w.alloc (.cells freshCells 49)) w.heap.size R St.fresh := by
  refine ⟨fun h => by have := hR _ h; omega, fun k hk => by have := hR k hk; simp; omega, none, none, 0, none, none, heap_alloc_new w _, .inl ⟨rfl, rfl⟩, .inl ⟨rfl, rfl⟩, .inl ⟨rfl, rfl⟩, World.ownsRow_nil _ _ _ _, ?_, ?_, ?_⟩
  · intro g e; simp [Value.ownBlock] at e
  · intro b e; cases e
  · intro b e; cases e

def NewPost (w : World) (e : Ending) (w' : World) : Prop := e = .returned (.pointer (some ⟨w.heap.size, 0, none⟩)) ∧ w' = w.alloc (.cells freshCells 49)

set_option maxHeartbeats 400000 in
theorem new14 (w : World) : Calls Try.prog 14 #[] w (NewPost w) := by
  go_enter Try.func14, Try.ntmps14
  go_wp2
  go_ret
  exact ⟨rfl, rfl⟩

set_option maxHeartbeats 400000 in
theorem code25 (w : World) (K : Nat) (R : Nat → Prop) (s : St) (code : ByteArray) (h : KeysAt w K R s) (hcode : code.size ≤ 1048576) (hC : s.C.length ≤ 1048576) :
    Calls Try.prog 25 #[.pointer (some ⟨K, 0, none⟩), .string code] w (CodePost w K R s code) := by
  go_enter Try.func25, Try.ntmps25
  go_wp2_with fail
  refine (code29 _ K R s code h hcode hC).mono ?_
  rintro e w' ⟨rfl, hk, hkept⟩
  go_wp2
  go_ret
  exact ⟨rfl, hk, hkept⟩

/-! ### The codes met, in the order in which they were first met -/

def cds (ss : List ByteArray) (k : Nat) : List ByteArray := (ss.take k).foldl addC []

theorem cds_zero (ss : List ByteArray) : cds ss 0 = [] := rfl
theorem cds_succ {ss : List ByteArray} {k : Nat} (hk : k < ss.length) : cds ss (k + 1) = addC (cds ss k) (gs ss k) := by
  unfold cds
  rw [List.take_succ_eq_append_getElem hk, List.foldl_append]
  simp [gs, List.getD, hk]

theorem idx_lt {C : List ByteArray} {c : ByteArray} : idx C c < C.length ↔ c ∈ C := by
  unfold idx
  rw [List.findIdx_lt_length]
  simp

theorem idx_le (C : List ByteArray) (c : ByteArray) : idx C c ≤ C.length := List.findIdx_le_length

theorem idx_append {C D : List ByteArray} {c : ByteArray} (h : idx C c < C.length) : idx (C ++ D) c = idx C c := by
  unfold idx at *
  rw [List.findIdx_append, if_pos h]

theorem idx_snoc {C : List ByteArray} {c : ByteArray} (h : ¬ idx C c < C.length) : idx (C ++ [c]) c = C.length := by
  have h2 : idx C c = C.length := by have := idx_le C c; omega
  unfold idx at *
  rw [List.findIdx_append, if_neg h]
  simp

theorem idx_addC {C : List ByteArray} {c d : ByteArray} (h : idx C d < C.length) : idx (addC C c) d = idx C d := by
  unfold addC
  split
  · rfl
  · exact idx_append h

theorem idx_addC_self (C : List ByteArray) (c : ByteArray) : idx (addC C c) c = idx C c ∧ idx C c < (addC C c).length := by
  unfold addC
  split
  · exact ⟨rfl, by assumption⟩
  · have := idx_le C c
    rw [idx_snoc (by assumption)]
    exact ⟨by omega, by simp; omega⟩

theorem addC_len (C : List ByteArray) (c : ByteArray) : (addC C c).length ≤ C.length + 1 ∧ C.length ≤ (addC C c).length := by
  unfold addC
  split
  · omega
  · simp

theorem cds_len (ss : List ByteArray) : ∀ k, k ≤ ss.length → (cds ss k).length ≤ k
  | 0, _ => by simp [cds_zero]
  | k + 1, h => by
    rw [cds_succ (by omega)]
    have := cds_len ss k (by omega)
    have := (addC_len (cds ss k) (gs ss k)).1
    omega

/-- Each string of the script's beginning is among the codes met. -/
theorem cds_mem (ss : List ByteArray) : ∀ k, k ≤ ss.length → ∀ j, j < k → idx (cds ss k) (gs ss j) < (cds ss k).length
  | 0, _, j, hj => by omega
  | k + 1, h, j, hj => by
    rw [cds_succ (by omega)]
    rcases Nat.lt_or_ge j k with h1 | h1
    · have := cds_mem ss k (by omega) j h1
      rw [idx_addC this]
      have := (addC_len (cds ss k) (gs ss k)).2
      omega
    · obtain rfl : j = k := by omega
      have := idx_addC_self (cds ss j) (gs ss j)
      omega

theorem mem_addC {C : List ByteArray} {c d : ByteArray} (h : d ∈ addC C c) : d ∈ C ∨ d = c := by
  unfold addC at h
  split at h
  · exact .inl h
  · simpa using h

/-- Each code met is one of the script's beginning. -/
theorem cds_from (ss : List ByteArray) : ∀ k, k ≤ ss.length → ∀ d, d ∈ cds ss k → ∃ j, j < k ∧ gs ss j = d
  | 0, _, d, hd => by simp [cds_zero] at hd
  | k + 1, h, d, hd => by
    rw [cds_succ (by omega)] at hd
    rcases mem_addC hd with h1 | h1
    · obtain ⟨j, hj, e⟩ := cds_from ss k (by omega) d h1
      exact ⟨j, by omega, e⟩
    · exact ⟨k, by omega, h1.symm⟩

/-- A code that is new. -/
theorem idx_new {ss : List ByteArray} {k : Nat} (hk : k < ss.length) (hn : ∀ j, j < k → gs ss j ≠ gs ss k) : idx (cds ss k) (gs ss k) = (cds ss k).length := by
  have h1 := idx_le (cds ss k) (gs ss k)
  rcases Nat.lt_or_ge (idx (cds ss k) (gs ss k)) (cds ss k).length with h2 | h2
  · obtain ⟨j, hj, e⟩ := cds_from ss k (by omega) _ (idx_lt.1 h2)
    exact absurd e (hn j hj)
  · omega

/-- The rank of the j-th code, once k are met. -/
def rank (ss : List ByteArray) (k j : Nat) : Nat := idx (cds ss k) (gs ss j) + 1

theorem rank_succ {ss : List ByteArray} {k j : Nat} (hk : k < ss.length) (hj : j ≤ k) : rank ss (k + 1) j = rank ss k j := by
  unfold rank
  rw [cds_succ hk]
  rcases Nat.lt_or_ge j k with h1 | h1
  · rw [idx_addC (cds_mem ss k (by omega) j h1)]
  · obtain rfl : j = k := by omega
    rw [(idx_addC_self _ _).1]

theorem rank_len {ss : List ByteArray} {k : Nat} (hk : k ≤ ss.length) (j : Nat) : 1 ≤ rank ss k j ∧ rank ss k j ≤ k + 1 := by
  unfold rank
  have := idx_le (cds ss k) (gs ss j)
  have := cds_len ss k hk
  omega

end Go.Proofs.Qxb6000395a
