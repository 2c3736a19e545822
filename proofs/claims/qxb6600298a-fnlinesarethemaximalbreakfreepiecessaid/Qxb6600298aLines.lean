/-
  Seat b6600298a: lines: the walk.
-/
import Derived.Test.Qxb6600298aLawThree
import Derived.Test.Qxb6600298aCuts
import Derived.Deep.AppendLies
import Derived.OwnWalk
namespace Go.Proofs.Qxb6600298a
open Go.RowKit
set_option linter.unusedVariables false
set_option linter.unusedSimpArgs false

/-- Where a piece lies; the piece as a value. -/
def pa (a : Option Addr) (n s : Nat) : Option Addr := if n = s then a else a.map (·.add s)
def pv (a : Option Addr) (n : Nat) (p : Nat × Nat) : Value := .slice (pa a n p.1) (p.2 - p.1) (n - p.1)

theorem elem22 : Try.prog.elem 22 = 5 := by kernel_rfl
theorem size5 (W : World) : (sizeOf 5).run Try.prog W = .ok 1 W := by
  obtain ⟨i0, hi, hz0, hz1, hz2⟩ := info_parts info5
  simp [sizeOf, hi, hz1]
  kernel_rfl

theorem slice22 (a : Option Addr) (n s e : Nat) (h1 : s ≤ e) (h2 : e ≤ n) (W : World) :
    (Instr.slice 22 (.slice a n n) (some (.int .i64 (s : Int))) (some (.int .i64 (e : Int))) none).run Try.prog W = .ok (.slice (pa a n s) (e - s) (n - s)) W := by
  rw [run_slice_lh W 22 a n n (by rw [elem22]; exact Try.underlying22) .i64 .i64 (s : Int) (e : Int) (by omega) (by omega) (by omega), elem22, size5]
  simp [sliced, pa, Result.andThen]

theorem slice22l (a : Option Addr) (n s : Nat) (h1 : s ≤ n) (W : World) :
    (Instr.slice 22 (.slice a n n) (some (.int .i64 (s : Int))) none none).run Try.prog W = .ok (.slice (pa a n s) (n - s) (n - s)) W := by
  rw [run_slice_l W 22 a n n (by rw [elem22]; exact Try.underlying22) .i64 (s : Int) (by omega) (by omega), elem22, size5]
  simp [sliced, pa, Result.andThen]

theorem info22 : (Try.prog.info? 22).map (fun i => (i.zero, i.size, i.bytes)) = some (some (.slice none 0 0), 1, 24) := by kernel_rfl

/-- The pieces so far, in a row of the call's own. -/
def RelL (w : World) (a : Option Addr) (n : Nat) (v : Value) (es : List (Nat × Nat)) (wr : World) : Prop :=
  Below w.heap.size w wr ∧ wr.ownsRow w.heap.size 22 1 v es.length (es.map (pv a n))

def LinesPost (w : World) (a : Option Addr) (zs : List Int) (e : Ending) (w' : World) : Prop :=
  ∃ fs g cap, e = .returned (.slice (some ⟨g, 0, none⟩) fs.length cap) ∧ LinesOk zs fs ∧ RelL w a zs.length (.slice (some ⟨g, 0, none⟩) fs.length cap) fs w'

theorem relL_app {w wr w1 : World} {a : Option Addr} {n : Nat} {v v' : Value} {es : List (Nat × Nat)} {p : Nat × Nat} {o : Obj} (h : RelL w a n v es wr) (hgrow : (wr.alloc o).grownBy w1 v.ownBlock)
    (hown : w1.ownsRow w.heap.size 22 1 v' (es.length + 1) (es.map (pv a n) ++ [pv a n p])) : RelL w a n v' (es ++ [p]) w1 := by
  have hs : wr.heap.size + 1 ≤ w1.heap.size := by have := hgrow.size; simpa using this
  have hsz := h.1.size
  refine ⟨⟨hgrow.os.trans h.1.os, hgrow.tape.trans h.1.tape, hgrow.output.trans h.1.output, by omega, fun k hk => ?_⟩, ?_⟩
  · rw [hgrow.block k (by simp; omega) ?_, Below.heap_alloc _ _ _ (by omega)]
    · exact h.1.block k hk
    · intro e
      rcases h.2.2 with ⟨hv, _⟩ | ⟨g, cp, cur, hv, hb, _⟩
      · rw [hv] at e; simp [Value.ownBlock] at e
      · rw [hv] at e
        simp [Value.ownBlock] at e
        omega
  · have : (es ++ [p]).length = es.length + 1 := by simp
    rw [this, List.map_append]
    exact hown

set_option maxHeartbeats 1000000 in
theorem lines23 (a : Option Addr) (zs : List Int) (w : World) (h : BytesAt w a zs) (hl : zs.length ≤ 65536) :
    Calls Try.prog 23 #[.slice a zs.length zs.length] w (LinesPost w a zs) := by
  go_enter Try.func23, Try.ntmps23
  go_wp2
  go_loopw [3, 4, 5] (fun v s i wr => ∃ (es : List (Nat × Nat)) (sk ik : Nat), s = .int .i64 sk ∧ i = .int .i64 ik ∧ Hid (Chain zs es sk) ∧ es.length ≤ sk ∧ sk ≤ ik ∧ ik ≤ zs.length ∧ Hid (∀ q, sk ≤ q → q < ik → brk zs q = 0) ∧ Hid (RelL w a zs.length v es wr)) (fun _ _ i _ => zs.length - (intOf i).toNat)
  case atStart => exact ⟨[], 0, 0, rfl, rfl, Chain.nil zs, Nat.le_refl _, Nat.le_refl _, Nat.zero_le _, fun q h1 h2 => by omega, ⟨Below.refl _ _, World.ownsRow_nil _ _ _ _⟩⟩
  case round =>
    obtain ⟨es, sk, ik, rfl, rfl, HC, hes, hsi, hil, HZ, HR⟩ := hrel
    by_cases hlt : ik < zs.length
    · have hbr := brk_le hlt
      have hbw : BytesAt wr a zs := h.below HR.out.1
      go_wp2_with fail
      refine (brk20 a zs zs.length ik _ hbw hlt (by omega)).mono ?_
      rintro e w' ⟨rfl, rfl⟩
      by_cases hz : brk zs ik = 0
      · have hd : ((brk zs ik : Int) == 0) = true := beq_iff_eq.2 (by omega)
        go_wp2
        go_roundw
        case rel => exact ⟨es, sk, ik + 1, rfl, by go_num, HC, hes, by omega, by omega, fun q h1 h2 => by
          rcases Nat.lt_or_ge q ik with h3 | h3
          · exact HZ.out q h1 h3
          · obtain rfl : q = ik := by omega
            exact hz, HR⟩
        case measure => simp [intOf]; omega
      · have hd : ((brk zs ik : Int) == 0) = false := beq_eq_false_iff_ne.2 (by omega)
        have hpos : 0 < brk zs ik := by omega
        have hsl := slice22 a zs.length sk ik hsi hil
        have hb3 := brk_le3 zs ik
        have HN : Hid _ := HC.out.snoc ⟨hsi, hil, HZ.out⟩ hlt hpos
        obtain ⟨i0, hi0, hz0, hz1, hz2⟩ := info_parts info22
        have hwz := HR.out.1.size
        go_wp2_with (first | (at_builtin; refine wpList_append_lies _ rfl _ _ _ rfl w.heap.size 22 i0 _ 1 24 Try.underlying27 hi0 hz0 hz1 hz2 rfl (by omega) u3 es.length (es.map (pv a zs.length)) rfl (World.ownsRow.alloc HR.out.2 _) ⟨wr.heap.size, 0, none⟩ 1 1 [.slice (pa a zs.length sk) (ik - sk) (zs.length - sk)] rfl rfl (World.news_of_block (cs := #[.slice (pa a zs.length sk) (ik - sk) (zs.length - sk)]) (t := 22) (fr := (0, 0)) (heap_alloc_new wr _)) (by simp [Value.oneCell']) (by omega) (by unfold maxLen; omega) (by omega) (by simp; omega) (wr.heap.size + 1) (by simp) ?_; intro g cap w1 hown hgrow hat hlt1; have HF : Hid (RelL w a zs.length (.slice (some ⟨g, 0, none⟩) (es.length + 1) cap) (es ++ [(sk, ik)]) w1) := relL_app HR.out hgrow hown; clear hown hgrow hat))
        go_roundw
        case rel => exact ⟨es ++ [(sk, ik)], ik + brk zs ik, ik + brk zs ik, by go_num, by go_num, HN, by simp; omega, Nat.le_refl _, hbr, fun q h1 h2 => by omega, HF⟩
        case measure => simp [intOf]; omega
    · obtain rfl : ik = zs.length := by omega
      have hsl := slice22l a zs.length sk hsi
      have HD : Hid _ := HC.out.done ⟨hsi, hil, HZ.out⟩
      obtain ⟨i0, hi0, hz0, hz1, hz2⟩ := info_parts info22
      have hwz := HR.out.1.size
      go_wp2_with (first | (at_builtin; refine wpList_append_lies _ rfl _ _ _ rfl w.heap.size 22 i0 _ 1 24 Try.underlying27 hi0 hz0 hz1 hz2 rfl (by omega) u3 es.length (es.map (pv a zs.length)) rfl (World.ownsRow.alloc HR.out.2 _) ⟨wr.heap.size, 0, none⟩ 1 1 [.slice (pa a zs.length sk) (zs.length - sk) (zs.length - sk)] rfl rfl (World.news_of_block (cs := #[.slice (pa a zs.length sk) (zs.length - sk) (zs.length - sk)]) (t := 22) (fr := (0, 0)) (heap_alloc_new wr _)) (by simp [Value.oneCell']) (by omega) (by unfold maxLen; omega) (by omega) (by simp; omega) (wr.heap.size + 1) (by simp) ?_; intro g cap w1 hown hgrow hat hlt1; have HF : Hid (RelL w a zs.length (.slice (some ⟨g, 0, none⟩) (es.length + 1) cap) (es ++ [(sk, zs.length)]) w1) := relL_app HR.out hgrow hown; clear hown hgrow hat))
      go_ret
      exact ⟨es ++ [(sk, zs.length)], g, cap, by simp, HD.out, by have := HF.out; simpa using this⟩

end Go.Proofs.Qxb6600298a
