/-
  Seat b6000395a: FnPackRefusesExactlyAndSeparates: what a round does to memory.
-/
import Derived.Test.Qxb6000395aSmall
namespace Go.Proofs.Qxb6000395a
open Go.RowKit
set_option linter.unusedVariables false
set_option linter.unusedSimpArgs false

/-- The blocks that are not the keys': all below N, the two rows, the journals met. -/
def Rp (N g : Nat) : Nat → Prop := fun k => k < N ∨ k = N + 2 ∨ k = N + 3 ∨ k = g

def MetIs (w : World) (g cap : Nat) (J : List ByteArray) : Prop := w.ownsRow 0 9 1 (.slice (some ⟨g, 0, none⟩) J.length cap) J.length (J.map Value.string)

def keyRow (js ns : List ByteArray) (k i : Nat) : Value := if i < k then .int .u64 (keyAt js ns i : Nat) else .int .u64 0
def okRow (js ns : List ByteArray) (k i : Nat) : Value := if i < k then .bool (okAt js ns i) else .bool false

/-- Round k, the keys having met the journals J: before the call of pack J is that of k, behind it that of k + 1. -/
def RelP (js ns : List ByteArray) (wc : World) (n k g cap : Nat) (J : List ByteArray) (wr : World) : Prop :=
  KeysAt wr wc.heap.size (Rp wc.heap.size g) { St.fresh with J := J } ∧ Below wc.heap.size wc wr ∧ MetIs wr g cap (jst js ns k) ∧ (g ≠ wc.heap.size + 2 ∧ g ≠ wc.heap.size + 3 ∧ wc.heap.size < g) ∧
    wr.rowIs (wc.heap.size + 2) 33 n (keyRow js ns k) ∧ wr.rowIs (wc.heap.size + 3) 4 n (okRow js ns k)

theorem make16 : ∃ M : Array Value, M.size = 16 ∧ ∀ W, (Instr.makeSlice 22 (.int .i64 0) (.int .i64 16)).run Try.prog W = .ok (.slice (some ⟨W.heap.size, 0, none⟩) 0 16) (W.alloc (.cells M 9)) := by
  obtain ⟨i0, hi, hz0, hz1, hz2⟩ := info_parts info9
  refine ⟨madeCells (Value.string ByteArray.empty).cells ((16 : Int).toNat * i0.size), by rw [size_madeCells, hz1]; rfl, fun W => ?_⟩
  exact run_make (P := Try.prog) W 22 9 i0 (.string ByteArray.empty) Try.underlying22 hi hz0 .i64 .i64 0 16 (by omega) (by omega) (by rw [hz2]; omega) (by omega)

theorem relP_start (js ns : List ByteArray) (wc : World) (n : Nat) (M : Array Value) (hM : M.size = 16) :
    RelP js ns wc n 0 (wc.heap.size + 1) 16 [] ((((wc.alloc (.cells freshCells 49)).alloc (.cells M 9)).alloc (.cells (madeCells #[.int .u64 0] n) 33)).alloc (.cells (madeCells #[.bool false] n) 4)) := by
  have h0 := KeysAt.made wc (fun k => k < wc.heap.size) (fun k h => h)
  refine ⟨?_, (((((Below.refl _ _).alloc (Nat.le_refl _) _).alloc (by simp) _).alloc (by simp; omega) _).alloc (by simp; omega) _), ?_, ⟨by omega, by omega, by omega⟩, ?_, ?_⟩
  · refine h0.of_same (by simp) (fun k hk _ => ?_) (fun k hk hn hr => ?_) (fun k hk => ?_)
    · simp at hk
      rw [Below.heap_alloc _ _ _ (by simp; omega), Below.heap_alloc _ _ _ (by simp; omega), Below.heap_alloc _ _ _ (by simp; omega)]
    · simp at hk
      rcases hr with hr | hr | hr | hr <;> omega
    · rcases hk with hk | hk | hk | hk <;> simp <;> omega
  · have h1 := World.ownsRow_made (base := 0) (e := 9) (size := 1) (wc.alloc (.cells freshCells 49)) M 16 (Nat.zero_le _) (by unfold maxLen; omega) (by omega)
    have h2 := (h1.alloc (.cells (madeCells #[.int .u64 0] n) 33)).alloc (.cells (madeCells #[.bool false] n) 4)
    simp at h2
    exact h2
  · have := World.rowIs_made ((wc.alloc (.cells freshCells 49)).alloc (.cells M 9)) (.int .u64 0) n 33
    have := this.alloc (.cells (madeCells #[.bool false] n) 4)
    simp at this
    exact this.congr (fun i hi => by simp [keyRow])
  · have := World.rowIs_made (((wc.alloc (.cells freshCells 49)).alloc (.cells M 9)).alloc (.cells (madeCells #[.int .u64 0] n) 33)) (.bool false) n 4
    simp at this
    exact this.congr (fun i hi => by simp [okRow])

theorem relP_drew {js ns : List ByteArray} {wc wr : World} {n k g cap : Nat} {J : List ByteArray} (h : RelP js ns wc n k g cap J wr) (m : Nat) : RelP js ns wc n k g cap J (wr.drewN m) :=
  ⟨h.1, ⟨h.2.1.os, h.2.1.tape, h.2.1.output, h.2.1.size, h.2.1.block⟩, h.2.2.1, h.2.2.2.1, h.2.2.2.2.1, h.2.2.2.2.2⟩

theorem MetIs.of_block {w w' : World} {g cap : Nat} {J : List ByteArray} (h : MetIs w g cap J) (e : w'.heap[g]? = w.heap[g]?) : MetIs w' g cap J := by
  refine ⟨h.1, ?_⟩
  rcases h.2 with ⟨hv, _⟩ | ⟨g', cp, cur, hv, hb, hh, r⟩
  · cases hv
  · cases hv
    exact .inr ⟨g, cap, cur, rfl, hb, e.trans hh, r⟩

theorem MetIs.lt {w : World} {g cap : Nat} {J : List ByteArray} (h : MetIs w g cap J) : g < w.heap.size := (World.ownsRow.lt h g rfl).2

/-- Behind the call of pack. -/
theorem relP_packed {js ns : List ByteArray} {wc w1 w2 : World} {n k g cap : Nat} {J J' : List ByteArray} (h : RelP js ns wc n k g cap J w1)
    (hp : KeysAt w2 wc.heap.size (Rp wc.heap.size g) { St.fresh with J := J' }) (hq : Kept (Rp wc.heap.size g) w1 w2) : RelP js ns wc n k g cap J' w2 := by
  obtain ⟨h1, h2, h3, h4, h5, h6⟩ := h
  exact ⟨hp, h2.trans (hq.below (fun j hj => .inl hj)), h3.of_block (hq.block g (.inr (.inr (.inr rfl)))), h4, hq.rowIs h5 (.inr (.inl rfl)), hq.rowIs h6 (.inr (.inr (.inl rfl)))⟩

/-- The two stores that end a round. -/
theorem relP_store {js ns : List ByteArray} {wc wr : World} {n k g cap : Nat} (hg : g ≠ wc.heap.size + 2 ∧ g ≠ wc.heap.size + 3 ∧ wc.heap.size < g)
    (h1 : KeysAt wr wc.heap.size (Rp wc.heap.size g) { St.fresh with J := jst js ns (k + 1) }) (h2 : Below wc.heap.size wc wr) (h3 : MetIs wr g cap (jst js ns (k + 1)))
    (h5 : wr.rowIs (wc.heap.size + 2) 33 n (keyRow js ns k)) (h6 : wr.rowIs (wc.heap.size + 3) 4 n (okRow js ns k)) :
    RelP js ns wc n (k + 1) g cap (jst js ns (k + 1)) ((wr.setCell ⟨wc.heap.size + 2, k, none⟩ (.int .u64 (keyAt js ns k : Nat))).setCell ⟨wc.heap.size + 3, k, none⟩ (.bool (okAt js ns k))) := by
  refine ⟨?_, (h2.setCell (by simp) _).setCell (by simp) _, ?_, hg, ?_, ?_⟩
  · refine h1.of_same (by simp [World.setCell]) (fun j hj hn => ?_) (fun _ _ h => h) (fun j hj => ?_)
    · rw [Below.heap_setCell _ _ _ _ (fun e => hn (.inr (.inr (.inl e)))), Below.heap_setCell _ _ _ _ (fun e => hn (.inr (.inl e)))]
    · have := h1.2.1 j hj
      simpa [World.setCell] using this
  · refine h3.of_block ?_
    rw [Below.heap_setCell _ _ _ _ hg.2.1, Below.heap_setCell _ _ _ _ hg.1]
  · refine ((h5.set k (.int .u64 (keyAt js ns k : Nat))).setOther (by simp) _).congr (fun i hi => ?_)
    unfold keyRow
    by_cases e : i = k
    · subst e; simp
    · by_cases e2 : i < k
      · rw [if_neg e, if_pos e2, if_pos (by omega)]
      · rw [if_neg e, if_neg e2, if_neg (by omega)]
  · refine ((h6.setOther (a := ⟨wc.heap.size + 2, k, none⟩) (by simp) _).set k (.bool (okAt js ns k))).congr (fun i hi => ?_)
    unfold okRow
    by_cases e : i = k
    · subst e; simp
    · by_cases e2 : i < k
      · rw [if_neg e, if_pos e2, if_pos (by omega)]
      · rw [if_neg e, if_neg e2, if_neg (by omega)]

/-- A round that appends nothing. -/
theorem relP_keep {js ns : List ByteArray} {wc wr : World} {n k g cap : Nat} (h : RelP js ns wc n k g cap (jst js ns (k + 1)) wr) (he : jst js ns (k + 1) = jst js ns k) :
    RelP js ns wc n (k + 1) g cap (jst js ns (k + 1)) ((wr.setCell ⟨wc.heap.size + 2, k, none⟩ (.int .u64 (keyAt js ns k : Nat))).setCell ⟨wc.heap.size + 3, k, none⟩ (.bool (okAt js ns k))) := by
  obtain ⟨h1, h2, h3, h4, h5, h6⟩ := h
  exact relP_store h4 h1 h2 (by rw [he]; exact h3) h5 h6

/-- A round that appends the journal. -/
theorem relP_app {js ns : List ByteArray} {wc wr w3 : World} {n k g cap g' cap' : Nat} {o : Obj} (h : RelP js ns wc n k g cap (jst js ns (k + 1)) wr) (he : jst js ns (k + 1) = jst js ns k ++ [gs js k])
    (hgrow : (wr.alloc o).grownBy w3 (some g)) (hown : w3.ownsRow 0 9 1 (.slice (some ⟨g', 0, none⟩) ((jst js ns k).length + 1) cap') ((jst js ns k).length + 1) ((jst js ns k).map Value.string ++ [.string (gs js k)]))
    (hat : some g = some g' ∨ g' = wr.heap.size + 1) :
    RelP js ns wc n (k + 1) g' cap' (jst js ns (k + 1)) ((w3.setCell ⟨wc.heap.size + 2, k, none⟩ (.int .u64 (keyAt js ns k : Nat))).setCell ⟨wc.heap.size + 3, k, none⟩ (.bool (okAt js ns k))) ∧
      w3.rowIs (wc.heap.size + 2) 33 n (keyRow js ns k) ∧ w3.rowIs (wc.heap.size + 3) 4 n (okRow js ns k) := by
  obtain ⟨h1, h2, h3, h4, h5, h6⟩ := h
  have hs : wr.heap.size + 1 ≤ w3.heap.size := by have := hgrow.size; simpa using this
  have hb : ∀ j, j < wr.heap.size → j ≠ g → w3.heap[j]? = wr.heap[j]? := fun j hj hne => by
    rw [hgrow.block j (by simp; omega) (by simpa using hne), Below.heap_alloc _ _ _ hj]
  have l5 := h5.lt
  have l6 := h6.lt
  have hN : wc.heap.size ≤ wr.heap.size := h2.size
  have hg' : g' ≠ wc.heap.size + 2 ∧ g' ≠ wc.heap.size + 3 ∧ wc.heap.size < g' := by
    rcases hat with e | e
    · cases e; exact h4
    · omega
  have r5 := h5.of_block (hb _ l5 (fun e => h4.1 e.symm))
  have r6 := h6.of_block (hb _ l6 (fun e => h4.2.1 e.symm))
  have hlt' : g' < w3.heap.size := (World.ownsRow.lt hown g' rfl).2
  refine ⟨relP_store hg' ?_ ?_ ?_ r5 r6, r5, r6⟩
  · refine h1.of_same (by omega) (fun j hj hn => hb j hj (fun e => hn (.inr (.inr (.inr e))))) (fun j hj hn hr => ?_) (fun j hj => ?_)
    · rcases hr with hr | hr | hr | hr
      · exact hn (.inl hr)
      · exact hn (.inr (.inl hr))
      · exact hn (.inr (.inr (.inl hr)))
      · rcases hat with e | e
        · cases e; exact hn (.inr (.inr (.inr hr)))
        · omega
    · rcases hj with hr | hr | hr | hr <;> omega
  · refine h2.trans ⟨hgrow.os, hgrow.tape, hgrow.output, by omega, fun j hj => hb j (by omega) (by omega)⟩
  · rw [he]
    unfold MetIs
    rw [List.length_append, List.map_append]
    exact hown

end Go.Proofs.Qxb6000395a
