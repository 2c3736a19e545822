/-
  Seat b6000395a: pack: the walk.
-/
import Derived.Test.Qxb6000395aPut
import Derived.Test.Qxb6000395aPackPlain
import Derived.Test.Qxb6000395aLawSeven
import Derived.Laws.IdiomStrings
import Derived.Maps.OwnSet
import Derived.Maps.OwnOps
namespace Go.Proofs.Qxb6000395a
open Go.RowKit
set_option linter.unusedVariables false
set_option linter.unusedSimpArgs false

/-- What pack leaves. -/
def PackPost (w : World) (K : Nat) (R : Nat → Prop) (s : St) (j n : ByteArray) (e : Ending) (w' : World) : Prop :=
  e = .returned (.tuple #[.int .u64 (keyFor s.J j n : Nat), .bool (packs s.J j n)]) ∧ KeysAt w' K R { s with J := addJ s.J j n } ∧ Kept R w w'

/-- '[]byte(number)'. -/
theorem conv9 (w : World) (s : ByteArray) : ∃ cap wB, (convert 9 59 (.string s)).run Try.prog w = .ok (.slice (some ⟨w.heap.size, 0, none⟩) s.size cap) wB ∧ Below w.heap.size w wB ∧
    ∀ k, k < s.size → wB.cell? ⟨w.heap.size, k, none⟩ = some (.int .u8 (byteAt s k : Nat)) := by
  have hc := run_bytes_of_string (P := Try.prog) w 9 59 5 s Try.underlying9 Try.underlying59 Try.underlying5
  refine ⟨_, _, hc, ((Below.refl _ w).drew).alloc (Nat.le_refl _) _, fun k hk => ?_⟩
  have hb : ∀ o, (w.drew.alloc o).heap[w.heap.size]? = some o := fun o => heap_alloc_new w.drew o
  unfold World.cell?
  rw [hb]
  have hk2 : k < s.data.size := hk
  simp [bytesRow, Array.getElem?_append, hk2, byteAt, List.getD, hk]

theorem pack_no {w w' : World} {K : Nat} {R : Nat → Prop} {s : St} {j n : ByteArray} (h : KeysAt w' K R s) (hk : Kept R w w') (hp : packs s.J j n = false) :
    PackPost w K R s j n (.returned (.tuple #[.int .u64 0, .bool false])) w' := by
  refine ⟨?_, ?_, hk⟩
  · unfold keyFor; rw [hp]; rfl
  · unfold addJ; rw [hp]; exact h

theorem pack_yes {w w' : World} {K : Nat} {R : Nat → Prop} {s : St} {j n : ByteArray} {x : Int} (h : KeysAt w' K R { s with J := addC s.J j }) (hk : Kept R w w') (hd : Digs n)
    (hp : idx s.J j < s.J.length ∨ s.J.length ≠ 1024) (hx : x = ((keyOf3 (idx s.J j) n.size (valTo n n.size) : Nat) : Int)) :
    PackPost w K R s j n (.returned (.tuple #[.int .u64 x, .bool true])) w' := by
  have hpk : packs s.J j n = true := by
    unfold packs
    rw [(digsB_iff n).2 hd]
    simpa using hp
  refine ⟨?_, ?_, hk⟩
  · unfold keyFor; rw [hpk, hx]; rfl
  · unfold addJ; rw [hpk]; exact h

theorem packs_full {J : List ByteArray} {j n : ByteArray} (hi : ¬ idx J j < J.length) (hf : J.length = 1024) : packs J j n = false := by
  unfold packs
  rw [decide_eq_false hi, decide_eq_true hf]
  simp

theorem KeysAt.later {w w' : World} {K : Nat} {R : Nat → Prop} {s : St} (h : KeysAt w K R s) (hb : Below w.heap.size w w') : KeysAt w' K R s :=
  h.of_same hb.size (fun k hk _ => hb.block k hk) (fun _ _ h => h) (fun k hk => Nat.lt_of_lt_of_le (h.2.1 k hk) hb.size)

theorem mapJ_of {w : World} {K : Nat} {R : Nat → Prop} {s : St} (h : KeysAt w K R s) {jm pm om : Option Nat} {a : Option Addr} {cap : Nat}
    (hK : w.heap[K]? = some (.cells #[.map jm, .slice a s.C.length cap, .map pm, .map om, .int .i64 s.n] 49 (0, 0))) : MapIs w R jm (jKV s.J) := by
  obtain ⟨h1, h2, jm', a', cap2, pm', om', hK', hj, hp, ho, hc, hg, d1, d2⟩ := h
  rw [hK] at hK'
  simp only [Option.some.injEq, Obj.cells.injEq, Array.mk.injEq, List.cons.injEq, Value.map.injEq, Value.slice.injEq, and_true, true_and] at hK'
  obtain ⟨rfl, ⟨rfl, rfl⟩, rfl, rfl⟩ := hK'
  exact hj

theorem pack_put {w wm w1 w2 : World} {K : Nat} {R : Nat → Prop} {s : St} {j n : ByteArray} {x : Int} {b : Nat} {pm om : Option Nat} {a : Option Addr} {cap : Nat} (hm : KeysAt wm K R s) (hk : Kept R w wm)
    (hK : wm.heap[K]? = some (.cells #[.map (some b), .slice a s.C.length cap, .map pm, .map om, .int .i64 s.n] 49 (0, 0))) (hb1 : Below wm.heap.size wm.drew w1)
    (hst : Stored w1 w2 b (jKV s.J) (.string j) (.int .u64 (s.J.length : Int))) (hi : idx s.J j = s.J.length) (hd : Digs n) (hf : s.J.length ≠ 1024)
    (hx : x = ((keyOf3 (idx s.J j) n.size (valTo n n.size) : Nat) : Int)) :
    PackPost w K R s j n (.returned (.tuple #[.int .u64 x, .bool true])) w2 := by
  have hb2 : Below wm.heap.size wm w1 := ⟨hb1.os, hb1.tape, hb1.output, hb1.size, hb1.block⟩
  have hKlt := (Array.getElem?_eq_some_iff.1 hK).1
  obtain ⟨p1, p2, p3⟩ := (hm.later hb2).putJ ((hb2.block K hKlt).trans hK) hst
  exact pack_yes (by rw [addC_new hi]; exact p1) ((hk.trans (Kept.of_below hb2 hm.2.1)).trans p2) hd (.inr hf) hx

theorem wpList_len_map {P : Program} {w : World} {ops : Array Oper} {rest : List Oper} {o : Oper} {a : Act} {Q : Exit → Act → World → Prop}
    (hg : o.guard = none) (m : Operand) (t : TypeId) (hop : o.op = Op.call { callee := Callee.builtin Builtin.len, args := #[m], argTypes := #[t] }) (r : Option Nat) (n : Nat) (hm : a.eval m = .map r)
    (hrun : ∀ ty, (Builtin.len_ #[t] ty #[.map r]).run P w = .ok (.int .i64 n) w) (hK : wpList P ops Q rest (a.put o.dst (.int .i64 n)) w) : wpList P ops Q (o :: rest) a w := by
  refine wpList_plain hg fun K' hK' => ?_
  unfold Oper.wp
  simp [execOp, hop, resolve, invoke, builtin, hm, hrun o.type, Result.andThen]
  exact hK' _ _ hK

set_option maxHeartbeats 1000000 in
theorem pack28 (w : World) (K : Nat) (R : Nat → Prop) (s : St) (j n : ByteArray) (h : KeysAt w K R s) (hj : j.size ≤ 1048576) (hn : n.size ≤ 1048576) (hJ : s.J.length ≤ 1024) :
    Calls Try.prog 28 #[.pointer (some ⟨K, 0, none⟩), .string j, .string n] w (PackPost w K R s j n) := by
  by_cases h0 : n.size = 0
  · have hnn : n = ⟨#[]⟩ := by
      apply ByteArray.ext
      exact Array.eq_empty_of_size_eq_zero h0
    subst hnn
    go_enter Try.func28, Try.ntmps28
    go_wp2
    go_ret2
    exact pack_no h (Kept.refl _ _) (by unfold packs; rw [digsB_false (by rintro ⟨h1, _⟩; omega)]; rfl)
  · have hne : (n.toList == ([] : List UInt8)) = false := by
      rw [ByteArray.toList_eq]
      simp
      intro e
      exact h0 (by have : n.data.size = 0 := by rw [e]; rfl
                   exact this)
    by_cases h15 : n.size ≤ 15
    · obtain ⟨cap, wB, hcv, hbB, hcell⟩ := conv9 w n
      have HB : Hid (KeysAt wB K R s) := h.later hbB
      have HKB : Hid (Kept R w wB) := Kept.of_below hbB h.2.1
      clear hbB h
      go_enter Try.func28, Try.ntmps28
      go_wp2
      go_loop [8, 23] (fun v i => ∃ k : Nat, k ≤ n.size ∧ i = .int .i64 k ∧ v = .int .u64 (valTo n k : Nat) ∧ Hid (∀ m, m < k → isDig n m)) (fun _ i => n.size - (intOf i).toNat)
      case atStart => exact ⟨0, Nat.zero_le _, rfl, rfl, fun m hm => by omega⟩
      case round =>
        obtain ⟨k, hk, rfl, rfl, hd⟩ := hrel
        have hvb := valTo_small (s := n) (k := k) (by omega) hd.out
        by_cases hlt : k < n.size
        · have hc := hcell k hlt
          have hb1 := byteAt_lt n k
          clear hcell hcv
          by_cases hdig : 48 ≤ byteAt n k ∧ byteAt n k ≤ 57
          · obtain ⟨hd1, hd2⟩ := hdig
            have HD : Hid (∀ m, m < k + 1 → isDig n m) := fun m hm => by
              rcases Nat.lt_or_ge m k with h3 | h3
              · exact hd.out m h3
              · obtain rfl : m = k := by omega
                exact ⟨hd1, hd2⟩
            go_wp2
            go_round
            case rel => exact ⟨k + 1, by omega, by go_num, congrArg (Value.int .u64) (by simp only [valTo]; omega), HD⟩
            case measure => simp [intOf]; omega
          · have HP : Hid (packs s.J j n = false) := by
              unfold packs
              rw [digsB_false (fun h1 => hdig (h1.2.2 k hlt))]
              rfl
            go_wp2
            all_goals go_ret2
            all_goals exact pack_no HB.out HKB.out HP.out
        · obtain rfl : k = n.size := by omega
          have HDg : Hid (Digs n) := ⟨by omega, h15, hd.out⟩
          clear hcell hcv hd hk hlt
          obtain ⟨h1, h2, jm, a, cap2, pm, om, hK, hjm, hp, ho, hc, hg, d1, d2⟩ := id HB.out
          have c0 : wB.cell? ⟨K, 0, none⟩ = some (.map jm) := by simp [World.cell?, hK]
          have f0 : wB.frozen? ⟨K, 0, none⟩ = false := by simp [World.frozen?, hK]
          have hlook := look45 hjm j
          have hlen := fun ty => len_map hjm Try.underlying45 ty
          rw [jKV_length] at hlen
          have HJM : Hid (MapIs wB R jm (jKV s.J)) := hjm
          have HKK : Hid (wB.heap[K]? = some (.cells #[.map jm, .slice a s.C.length cap2, .map pm, .map om, .int .i64 s.n] 49 (0, 0))) := hK
          have HLN : Hid (∀ ty, (Builtin.len_ #[45] ty #[.map jm]).run Try.prog wB = .ok (.int .i64 s.J.length) wB) := hlen
          clear h1 h2 hjm hp ho hc hg d1 d2 hK hlen
          by_cases hi : idx s.J j < s.J.length
          · simp only [hi, if_true, decide_true] at hlook
            go_wp2
            go_ret2
            refine pack_yes (by rw [addC_old hi]; exact HB.out) HKB.out HDg.out (.inl hi) ?_
            exact key_bits2 (by omega) (by omega) hvb
          · simp only [hi, if_false, decide_false] at hlook
            by_cases hfull : s.J.length = 1024
            · have hf2 : ((s.J.length : Int) == 1024) = true := by simp; omega
              have HP : Hid (packs s.J j n = false) := packs_full hi hfull
              clear hfull
              go_wp2_with (first | (at_len; refine wpList_len_map rfl _ _ rfl _ _ rfl HLN.out ?_))
              go_ret2
              exact pack_no HB.out HKB.out HP.out
            · have hf2 : ((s.J.length : Int) == 1024) = false := by simp; omega
              have hii : idx s.J j = s.J.length := by have := idx_le s.J j; omega
              have HI : Hid (idx s.J j = s.J.length) := hii
              clear hii
              have q45 := fun (W : World) (r : Option Nat) => run_eql_map_nil (P := Try.prog) W 45 9 33 r Try.underlying45
              have hKlt : K < wB.heap.size := (Array.getElem?_eq_some_iff.1 HKK.out).1
              cases jm with
              | none =>
                have hmm := @run_makeMap Try.prog
                obtain ⟨m1, m2, m3⟩ := HB.out.mkJ HKK.out
                rw [World.setCell_alloc_past _ _ _ _ hKlt] at m1 m2 m3
                have HJ2 : Hid (MapIs ((wB.setCell ⟨K, 0, none⟩ (.map (some wB.heap.size))).alloc (.map #[] 0)) R (some wB.heap.size) (jKV s.J)) := mapJ_of m1 m3
                have HLN2 : Hid (∀ ty, (Builtin.len_ #[45] ty #[.map (some wB.heap.size)]).run Try.prog ((wB.setCell ⟨K, 0, none⟩ (.map (some wB.heap.size))).alloc (.map #[] 0)) = .ok (.int .i64 s.J.length) ((wB.setCell ⟨K, 0, none⟩ (.map (some wB.heap.size))).alloc (.map #[] 0))) := fun ty => by
                  have := len_map HJ2.out Try.underlying45 ty
                  rw [jKV_length] at this
                  exact this
                have HM : Hid _ := m1
                have HKM : Hid _ := HKB.out.trans m2
                have HK2 : Hid _ := m3
                clear m1 m2 m3
                go_wp2_with (first | (at_len; refine wpList_len_map rfl _ _ rfl _ _ rfl HLN.out ?_) | (at_len; refine wpList_len_map rfl _ _ rfl _ _ rfl HLN2.out ?_))
                clear hlook c0 f0 HLN q45 HLN2 hmm
                generalize (wB.setCell ⟨K, 0, none⟩ (.map (some wB.heap.size))).alloc (.map #[] 0) = wm at HJ2 HM HKM HK2 ⊢
                have c2 : wm.cell? ⟨K, 0, none⟩ = some (.map (some wB.heap.size)) := by simp [World.cell?, HK2.out]
                have hKlt2 : K < wm.heap.size := (Array.getElem?_eq_some_iff.1 HK2.out).1
                have hbb : ∃ es clk, wm.heap[wB.heap.size]? = some (.map es clk) ∧ es.toList.map (fun e => (e.key, e.val)) = jKV s.J := by
                  rcases HJ2.out with ⟨e, _⟩ | ⟨b', es, clk, e, _, h5, h6⟩
                  · cases e
                  · cases e
                    exact ⟨es, clk, h5, h6⟩
                obtain ⟨es, clk, hb3, he⟩ := hbb
                have hblt : wB.heap.size < wm.heap.size := (Array.getElem?_eq_some_iff.1 hb3).1
                have hKne : K ≠ wB.heap.size := by
                  intro e
                  rw [← e, HK2.out] at hb3
                  cases hb3
                have HB3 : Hid (wm.heap[wB.heap.size]? = some (.map es clk)) := hb3
                have HE : Hid (es.toList.map (fun e => (e.key, e.val)) = jKV s.J) := he
                clear hb3 he
                go_region_held3 (fun w' => w'.cell? ⟨K, 0, none⟩ = some (.map (some wB.heap.size)))
                  (first | exact c2 | exact hS1 | exact hS2)
                  (first | (go_at_call 30; refine (clone30 j _ (by omega)).mono ?_; rintro e w1 ⟨rfl, hb1⟩; have hS1 := (hb1.cell (p := ⟨K, 0, none⟩) hKlt2).trans c2; obtain ⟨w2, hrun, hst⟩ := store_new (w := w1) ((hb1.block wB.heap.size hblt).trans HB3.out) HE.out Try.underlying45 (.int .u64 (s.J.length : Int)) (check9 false j w1) (by rw [find9 j w1 _ HE.out, if_neg hi]); have hS2 := (World.cell?_of_block (a := ⟨K, 0, none⟩) (hst.block K hKne)).trans hS1))
                go_wp2
                go_ret2
                exact pack_put HM.out HKM.out HK2.out hb1 hst HI.out HDg.out hfull (by rw [HI.out]; exact key_bits2 (by omega) (by omega) hvb)
              | some b =>
                go_wp2_with (first | (at_len; refine wpList_len_map rfl _ _ rfl _ _ rfl HLN.out ?_))
                have HJ2 := HJM
                have HK2 := HKK
                have HM := HB
                have HKM := HKB
                have c2 := c0
                have hKlt2 := hKlt
                clear hlook c0 f0 HLN q45
                have hbb : ∃ es clk, wB.heap[b]? = some (.map es clk) ∧ es.toList.map (fun e => (e.key, e.val)) = jKV s.J := by
                  rcases HJ2.out with ⟨e, _⟩ | ⟨b', es, clk, e, _, h5, h6⟩
                  · cases e
                  · cases e
                    exact ⟨es, clk, h5, h6⟩
                obtain ⟨es, clk, hb3, he⟩ := hbb
                have hblt : b < wB.heap.size := (Array.getElem?_eq_some_iff.1 hb3).1
                have hKne : K ≠ b := by
                  intro e
                  rw [← e, HK2.out] at hb3
                  cases hb3
                have HB3 : Hid (wB.heap[b]? = some (.map es clk)) := hb3
                have HE : Hid (es.toList.map (fun e => (e.key, e.val)) = jKV s.J) := he
                clear hb3 he
                go_region_held3 (fun w' => w'.cell? ⟨K, 0, none⟩ = some (.map (some b)))
                  (first | exact c2 | exact hS1 | exact hS2)
                  (first | (go_at_call 30; refine (clone30 j _ (by omega)).mono ?_; rintro e w1 ⟨rfl, hb1⟩; have hS1 := (hb1.cell (p := ⟨K, 0, none⟩) hKlt2).trans c2; obtain ⟨w2, hrun, hst⟩ := store_new (w := w1) ((hb1.block b hblt).trans HB3.out) HE.out Try.underlying45 (.int .u64 (s.J.length : Int)) (check9 false j w1) (by rw [find9 j w1 _ HE.out, if_neg hi]); have hS2 := (World.cell?_of_block (a := ⟨K, 0, none⟩) (hst.block K hKne)).trans hS1))
                go_wp2
                go_ret2
                exact pack_put HM.out HKM.out HK2.out hb1 hst HI.out HDg.out hfull (by rw [HI.out]; exact key_bits2 (by omega) (by omega) hvb)
    · go_enter Try.func28, Try.ntmps28
      go_wp2
      go_ret2
      exact pack_no h (Kept.refl _ _) (by unfold packs; rw [digsB_false (by rintro ⟨_, h1, _⟩; omega)]; rfl)

end Go.Proofs.Qxb6000395a
