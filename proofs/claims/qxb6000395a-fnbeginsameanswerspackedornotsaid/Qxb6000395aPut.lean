/-
  Seat b6000395a: a documentKeys behind a store into one of its three maps, and behind the making of one. (Three times the same, by program.)
-/
import Derived.Test.Qxb6000395aMaps
namespace Go.Proofs.Qxb6000395a
open Go.RowKit
set_option linter.unusedVariables false
set_option linter.unusedSimpArgs false

theorem KeysAt.putJ {w w2 : World} {K : Nat} {R : Nat → Prop} {s : St} (h : KeysAt w K R s) {pm om : Option Nat} {a : Option Addr} {cap b : Nat} {j : ByteArray}
    (hK : w.heap[K]? = some (.cells #[.map (some b), .slice a s.C.length cap, .map pm, .map om, .int .i64 s.n] 49 (0, 0)))
    (hst : Stored w w2 b (jKV s.J) (.string j) (.int .u64 (s.J.length : Int))) :
    KeysAt w2 K R { s with J := s.J ++ [j] } ∧ Kept R w w2 ∧ w2.heap[K]? = some (.cells #[.map (some b), .slice a s.C.length cap, .map pm, .map om, .int .i64 s.n] 49 (0, 0)) := by
  obtain ⟨h1, h2, jm', a', cap2, pm', om', hK', hj, hp, ho, hc, hg, d1, d2⟩ := h
  rw [hK] at hK'
  simp only [Option.some.injEq, Obj.cells.injEq, Array.mk.injEq, List.cons.injEq, Value.map.injEq, Value.slice.injEq, and_true, true_and] at hK'
  obtain ⟨rfl, ⟨rfl, rfl⟩, rfl, rfl⟩ := hK'
  have hbl := hj.lt b rfl
  obtain ⟨es, clk, hm2, he2⟩ := hst.map
  have hbK : K ≠ b := by
    rintro rfl
    rcases hj with ⟨e, _⟩ | ⟨b', es', clk', e, _, hb', _⟩
    · cases e
    · cases e
      rw [hK] at hb'
      cases hb'
  have hK2 := (hst.block K hbK).trans hK
  refine ⟨⟨h1, fun k hk => by rw [hst.size]; exact h2 k hk, (some b), a, cap, pm, om, hK2, .inr ⟨b, es, clk, rfl, hbl.2, hm2, by rw [jKV_snoc]; exact he2⟩, hst.other hp (d1 b rfl).1, hst.other ho (d1 b rfl).2, ?_, hg, d1, d2⟩, ⟨hst.os, hst.tape, hst.output, by rw [hst.size]; exact Nat.le_refl _, fun k hk => hst.block k (fun e => hbl.2 (by rw [← e]; exact hk))⟩, hK2⟩
  refine ⟨hc.1, ?_⟩
  rcases hc.2 with c2 | ⟨g, cp, cur, hv, hb0, hh, r⟩
  · exact .inl c2
  · refine .inr ⟨g, cp, cur, hv, hb0, ?_, r⟩
    rw [hst.block g ?_]
    · exact hh
    · rintro rfl
      rcases hj with ⟨e, _⟩ | ⟨b', es', clk', e, _, hb', _⟩
      · cases e
      · cases e
        rw [hh] at hb'
        cases hb'

theorem KeysAt.putP {w w2 : World} {K : Nat} {R : Nat → Prop} {s : St} (h : KeysAt w K R s) {jm om : Option Nat} {a : Option Addr} {cap b : Nat} {k v : Int}
    (hK : w.heap[K]? = some (.cells #[.map jm, .slice a s.C.length cap, .map (some b), .map om, .int .i64 s.n] 49 (0, 0)))
    (hst : Stored w w2 b (pKV s.P) (.int .u64 k) (.int .u64 v)) :
    KeysAt w2 K R { s with P := s.P ++ [(k, v)] } ∧ Kept R w w2 ∧ w2.heap[K]? = some (.cells #[.map jm, .slice a s.C.length cap, .map (some b), .map om, .int .i64 s.n] 49 (0, 0)) := by
  obtain ⟨h1, h2, jm', a', cap2, pm', om', hK', hj, hp, ho, hc, hg, d1, d2⟩ := h
  rw [hK] at hK'
  simp only [Option.some.injEq, Obj.cells.injEq, Array.mk.injEq, List.cons.injEq, Value.map.injEq, Value.slice.injEq, and_true, true_and] at hK'
  obtain ⟨rfl, ⟨rfl, rfl⟩, rfl, rfl⟩ := hK'
  have hbl := hp.lt b rfl
  obtain ⟨es, clk, hm2, he2⟩ := hst.map
  have hbK : K ≠ b := by
    rintro rfl
    rcases hp with ⟨e, _⟩ | ⟨b', es', clk', e, _, hb', _⟩
    · cases e
    · cases e
      rw [hK] at hb'
      cases hb'
  have hK2 := (hst.block K hbK).trans hK
  refine ⟨⟨h1, fun k hk => by rw [hst.size]; exact h2 k hk, jm, a, cap, (some b), om, hK2, hst.other hj (fun e => (d1 b e).1 rfl), .inr ⟨b, es, clk, rfl, hbl.2, hm2, by rw [pKV_snoc]; exact he2⟩, hst.other ho (d2 b rfl), ?_, hg, d1, d2⟩, ⟨hst.os, hst.tape, hst.output, by rw [hst.size]; exact Nat.le_refl _, fun k hk => hst.block k (fun e => hbl.2 (by rw [← e]; exact hk))⟩, hK2⟩
  refine ⟨hc.1, ?_⟩
  rcases hc.2 with c2 | ⟨g, cp, cur, hv, hb0, hh, r⟩
  · exact .inl c2
  · refine .inr ⟨g, cp, cur, hv, hb0, ?_, r⟩
    rw [hst.block g ?_]
    · exact hh
    · rintro rfl
      rcases hp with ⟨e, _⟩ | ⟨b', es', clk', e, _, hb', _⟩
      · cases e
      · cases e
        rw [hh] at hb'
        cases hb'

theorem KeysAt.putO {w w2 : World} {K : Nat} {R : Nat → Prop} {s : St} (h : KeysAt w K R s) {jm pm : Option Nat} {a : Option Addr} {cap b : Nat} {j n c : ByteArray} {l : Int}
    (hK : w.heap[K]? = some (.cells #[.map jm, .slice a s.C.length cap, .map pm, .map (some b), .int .i64 s.n] 49 (0, 0)))
    (hst : Stored w w2 b (oKV s.O) (.agg #[.string j, .string n]) (.agg #[.int .i64 l, .string c])) :
    KeysAt w2 K R { s with O := s.O ++ [((j, n), (l, c))] } ∧ Kept R w w2 ∧ w2.heap[K]? = some (.cells #[.map jm, .slice a s.C.length cap, .map pm, .map (some b), .int .i64 s.n] 49 (0, 0)) := by
  obtain ⟨h1, h2, jm', a', cap2, pm', om', hK', hj, hp, ho, hc, hg, d1, d2⟩ := h
  rw [hK] at hK'
  simp only [Option.some.injEq, Obj.cells.injEq, Array.mk.injEq, List.cons.injEq, Value.map.injEq, Value.slice.injEq, and_true, true_and] at hK'
  obtain ⟨rfl, ⟨rfl, rfl⟩, rfl, rfl⟩ := hK'
  have hbl := ho.lt b rfl
  obtain ⟨es, clk, hm2, he2⟩ := hst.map
  have hbK : K ≠ b := by
    rintro rfl
    rcases ho with ⟨e, _⟩ | ⟨b', es', clk', e, _, hb', _⟩
    · cases e
    · cases e
      rw [hK] at hb'
      cases hb'
  have hK2 := (hst.block K hbK).trans hK
  refine ⟨⟨h1, fun k hk => by rw [hst.size]; exact h2 k hk, jm, a, cap, pm, (some b), hK2, hst.other hj (fun e => (d1 b e).2 rfl), hst.other hp (fun e => d2 b e rfl), .inr ⟨b, es, clk, rfl, hbl.2, hm2, by rw [oKV_snoc]; exact he2⟩, ?_, hg, d1, d2⟩, ⟨hst.os, hst.tape, hst.output, by rw [hst.size]; exact Nat.le_refl _, fun k hk => hst.block k (fun e => hbl.2 (by rw [← e]; exact hk))⟩, hK2⟩
  refine ⟨hc.1, ?_⟩
  rcases hc.2 with c2 | ⟨g, cp, cur, hv, hb0, hh, r⟩
  · exact .inl c2
  · refine .inr ⟨g, cp, cur, hv, hb0, ?_, r⟩
    rw [hst.block g ?_]
    · exact hh
    · rintro rfl
      rcases ho with ⟨e, _⟩ | ⟨b', es', clk', e, _, hb', _⟩
      · cases e
      · cases e
        rw [hh] at hb'
        cases hb'

theorem KeysAt.mkJ {w : World} {K : Nat} {R : Nat → Prop} {s : St} (h : KeysAt w K R s) {pm om : Option Nat} {a : Option Addr} {cap : Nat}
    (hK : w.heap[K]? = some (.cells #[.map none, .slice a s.C.length cap, .map pm, .map om, .int .i64 s.n] 49 (0, 0))) :
    KeysAt ((w.alloc (.map #[] 0)).setCell ⟨K, 0, none⟩ (.map (some w.heap.size))) K R s ∧ Kept R w ((w.alloc (.map #[] 0)).setCell ⟨K, 0, none⟩ (.map (some w.heap.size))) ∧
      ((w.alloc (.map #[] 0)).setCell ⟨K, 0, none⟩ (.map (some w.heap.size))).heap[K]? = some (.cells #[.map (some w.heap.size), .slice a s.C.length cap, .map pm, .map om, .int .i64 s.n] 49 (0, 0)) := by
  obtain ⟨h1, h2, jm', a', cap2, pm', om', hK', hj, hp, ho, hc, hg, d1, d2⟩ := h
  rw [hK] at hK'
  simp only [Option.some.injEq, Obj.cells.injEq, Array.mk.injEq, List.cons.injEq, Value.map.injEq, Value.slice.injEq, and_true, true_and] at hK'
  obtain ⟨rfl, ⟨rfl, rfl⟩, rfl, rfl⟩ := hK'
  have hKlt := (Array.getElem?_eq_some_iff.1 hK).1
  have hsz : ((w.alloc (.map #[] 0)).setCell ⟨K, 0, none⟩ (.map (some w.heap.size))).heap.size = w.heap.size + 1 := by simp [World.setCell]
  have hold : ∀ k, k < w.heap.size → k ≠ K → ((w.alloc (.map #[] 0)).setCell ⟨K, 0, none⟩ (.map (some w.heap.size))).heap[k]? = w.heap[k]? := fun k hk hne => by
    rw [Below.heap_setCell _ _ _ _ (by simpa using hne), Below.heap_alloc _ _ _ hk]
  have hnew : ((w.alloc (.map #[] 0)).setCell ⟨K, 0, none⟩ (.map (some w.heap.size))).heap[w.heap.size]? = some (.map #[] 0) := by
    rw [Below.heap_setCell _ _ _ _ (by simp; omega)]
    exact heap_alloc_new w _
  have hKa : (w.alloc (.map #[] 0)).heap[K]? = _ := (Below.heap_alloc w (.map #[] 0) K hKlt).trans hK
  have hK2 : ((w.alloc (.map #[] 0)).setCell ⟨K, 0, none⟩ (.map (some w.heap.size))).heap[K]? = some (.cells #[.map (some w.heap.size), .slice a s.C.length cap, .map pm, .map om, .int .i64 s.n] 49 (0, 0)) := by
    simp [World.setCell, Array.getElem?_modify, hKa]
  have hmap : ∀ {m : Option Nat} {kv : List (Value × Value)}, MapIs w R m kv → MapIs ((w.alloc (.map #[] 0)).setCell ⟨K, 0, none⟩ (.map (some w.heap.size))) R m kv := by
    intro m kv hm
    rcases hm with hm | ⟨b, es, clk, rfl, hr, hbb, he⟩
    · exact .inl hm
    · refine .inr ⟨b, es, clk, rfl, hr, ?_, he⟩
      rw [hold b (Array.getElem?_eq_some_iff.1 hbb).1 (by rintro rfl; rw [hK] at hbb; cases hbb)]
      exact hbb
  have hfresh : MapIs ((w.alloc (.map #[] 0)).setCell ⟨K, 0, none⟩ (.map (some w.heap.size))) R (some w.heap.size) (jKV s.J) := by
    rcases hj with ⟨_, e⟩ | ⟨b', es', clk', e, _⟩
    · exact .inr ⟨w.heap.size, #[], 0, rfl, fun hr => by have := h2 _ hr; omega, hnew, by rw [e]; rfl⟩
    · cases e
  refine ⟨⟨h1, fun k hk => by rw [hsz]; have := h2 k hk; omega, (some w.heap.size), a, cap, pm, om, hK2, hfresh, hmap hp, hmap ho, ?_, hg, (fun b e => by cases e; exact ⟨fun e => by have := (hp.lt _ e).1; omega, fun e => by have := (ho.lt _ e).1; omega⟩), d2⟩, ⟨rfl, rfl, rfl, by rw [hsz]; omega, fun k hk => hold k (h2 k hk) (fun e => h1 (by rw [← e]; exact hk))⟩, hK2⟩
  refine ⟨hc.1, ?_⟩
  rcases hc.2 with c2 | ⟨g, cp, cur, hv, hb0, hh, r⟩
  · exact .inl c2
  · refine .inr ⟨g, cp, cur, hv, hb0, ?_, r⟩
    rw [hold g (Array.getElem?_eq_some_iff.1 hh).1 (by rintro rfl; rw [hK] at hh; simp at hh)]
    exact hh

theorem KeysAt.mkP {w : World} {K : Nat} {R : Nat → Prop} {s : St} (h : KeysAt w K R s) {jm om : Option Nat} {a : Option Addr} {cap : Nat}
    (hK : w.heap[K]? = some (.cells #[.map jm, .slice a s.C.length cap, .map none, .map om, .int .i64 s.n] 49 (0, 0))) :
    KeysAt ((w.alloc (.map #[] 0)).setCell ⟨K, 2, none⟩ (.map (some w.heap.size))) K R s ∧ Kept R w ((w.alloc (.map #[] 0)).setCell ⟨K, 2, none⟩ (.map (some w.heap.size))) ∧
      ((w.alloc (.map #[] 0)).setCell ⟨K, 2, none⟩ (.map (some w.heap.size))).heap[K]? = some (.cells #[.map jm, .slice a s.C.length cap, .map (some w.heap.size), .map om, .int .i64 s.n] 49 (0, 0)) := by
  obtain ⟨h1, h2, jm', a', cap2, pm', om', hK', hj, hp, ho, hc, hg, d1, d2⟩ := h
  rw [hK] at hK'
  simp only [Option.some.injEq, Obj.cells.injEq, Array.mk.injEq, List.cons.injEq, Value.map.injEq, Value.slice.injEq, and_true, true_and] at hK'
  obtain ⟨rfl, ⟨rfl, rfl⟩, rfl, rfl⟩ := hK'
  have hKlt := (Array.getElem?_eq_some_iff.1 hK).1
  have hsz : ((w.alloc (.map #[] 0)).setCell ⟨K, 2, none⟩ (.map (some w.heap.size))).heap.size = w.heap.size + 1 := by simp [World.setCell]
  have hold : ∀ k, k < w.heap.size → k ≠ K → ((w.alloc (.map #[] 0)).setCell ⟨K, 2, none⟩ (.map (some w.heap.size))).heap[k]? = w.heap[k]? := fun k hk hne => by
    rw [Below.heap_setCell _ _ _ _ (by simpa using hne), Below.heap_alloc _ _ _ hk]
  have hnew : ((w.alloc (.map #[] 0)).setCell ⟨K, 2, none⟩ (.map (some w.heap.size))).heap[w.heap.size]? = some (.map #[] 0) := by
    rw [Below.heap_setCell _ _ _ _ (by simp; omega)]
    exact heap_alloc_new w _
  have hKa : (w.alloc (.map #[] 0)).heap[K]? = _ := (Below.heap_alloc w (.map #[] 0) K hKlt).trans hK
  have hK2 : ((w.alloc (.map #[] 0)).setCell ⟨K, 2, none⟩ (.map (some w.heap.size))).heap[K]? = some (.cells #[.map jm, .slice a s.C.length cap, .map (some w.heap.size), .map om, .int .i64 s.n] 49 (0, 0)) := by
    simp [World.setCell, Array.getElem?_modify, hKa]
  have hmap : ∀ {m : Option Nat} {kv : List (Value × Value)}, MapIs w R m kv → MapIs ((w.alloc (.map #[] 0)).setCell ⟨K, 2, none⟩ (.map (some w.heap.size))) R m kv := by
    intro m kv hm
    rcases hm with hm | ⟨b, es, clk, rfl, hr, hbb, he⟩
    · exact .inl hm
    · refine .inr ⟨b, es, clk, rfl, hr, ?_, he⟩
      rw [hold b (Array.getElem?_eq_some_iff.1 hbb).1 (by rintro rfl; rw [hK] at hbb; cases hbb)]
      exact hbb
  have hfresh : MapIs ((w.alloc (.map #[] 0)).setCell ⟨K, 2, none⟩ (.map (some w.heap.size))) R (some w.heap.size) (pKV s.P) := by
    rcases hp with ⟨_, e⟩ | ⟨b', es', clk', e, _⟩
    · exact .inr ⟨w.heap.size, #[], 0, rfl, fun hr => by have := h2 _ hr; omega, hnew, by rw [e]; rfl⟩
    · cases e
  refine ⟨⟨h1, fun k hk => by rw [hsz]; have := h2 k hk; omega, jm, a, cap, (some w.heap.size), om, hK2, hmap hj, hfresh, hmap ho, ?_, hg, (fun b e => ⟨fun e2 => by have := (hj.lt _ e).1; cases e2; omega, (d1 b e).2⟩), (fun b e => by cases e; exact fun e => by have := (ho.lt _ e).1; omega)⟩, ⟨rfl, rfl, rfl, by rw [hsz]; omega, fun k hk => hold k (h2 k hk) (fun e => h1 (by rw [← e]; exact hk))⟩, hK2⟩
  refine ⟨hc.1, ?_⟩
  rcases hc.2 with c2 | ⟨g, cp, cur, hv, hb0, hh, r⟩
  · exact .inl c2
  · refine .inr ⟨g, cp, cur, hv, hb0, ?_, r⟩
    rw [hold g (Array.getElem?_eq_some_iff.1 hh).1 (by rintro rfl; rw [hK] at hh; simp at hh)]
    exact hh

theorem KeysAt.mkO {w : World} {K : Nat} {R : Nat → Prop} {s : St} (h : KeysAt w K R s) {jm pm : Option Nat} {a : Option Addr} {cap : Nat}
    (hK : w.heap[K]? = some (.cells #[.map jm, .slice a s.C.length cap, .map pm, .map none, .int .i64 s.n] 49 (0, 0))) :
    KeysAt ((w.alloc (.map #[] 0)).setCell ⟨K, 3, none⟩ (.map (some w.heap.size))) K R s ∧ Kept R w ((w.alloc (.map #[] 0)).setCell ⟨K, 3, none⟩ (.map (some w.heap.size))) ∧
      ((w.alloc (.map #[] 0)).setCell ⟨K, 3, none⟩ (.map (some w.heap.size))).heap[K]? = some (.cells #[.map jm, .slice a s.C.length cap, .map pm, .map (some w.heap.size), .int .i64 s.n] 49 (0, 0)) := by
  obtain ⟨h1, h2, jm', a', cap2, pm', om', hK', hj, hp, ho, hc, hg, d1, d2⟩ := h
  rw [hK] at hK'
  simp only [Option.some.injEq, Obj.cells.injEq, Array.mk.injEq, List.cons.injEq, Value.map.injEq, Value.slice.injEq, and_true, true_and] at hK'
  obtain ⟨rfl, ⟨rfl, rfl⟩, rfl, rfl⟩ := hK'
  have hKlt := (Array.getElem?_eq_some_iff.1 hK).1
  have hsz : ((w.alloc (.map #[] 0)).setCell ⟨K, 3, none⟩ (.map (some w.heap.size))).heap.size = w.heap.size + 1 := by simp [World.setCell]
  have hold : ∀ k, k < w.heap.size → k ≠ K → ((w.alloc (.map #[] 0)).setCell ⟨K, 3, none⟩ (.map (some w.heap.size))).heap[k]? = w.heap[k]? := fun k hk hne => by
    rw [Below.heap_setCell _ _ _ _ (by simpa using hne), Below.heap_alloc _ _ _ hk]
  have hnew : ((w.alloc (.map #[] 0)).setCell ⟨K, 3, none⟩ (.map (some w.heap.size))).heap[w.heap.size]? = some (.map #[] 0) := by
    rw [Below.heap_setCell _ _ _ _ (by simp; omega)]
    exact heap_alloc_new w _
  have hKa : (w.alloc (.map #[] 0)).heap[K]? = _ := (Below.heap_alloc w (.map #[] 0) K hKlt).trans hK
  have hK2 : ((w.alloc (.map #[] 0)).setCell ⟨K, 3, none⟩ (.map (some w.heap.size))).heap[K]? = some (.cells #[.map jm, .slice a s.C.length cap, .map pm, .map (some w.heap.size), .int .i64 s.n] 49 (0, 0)) := by
    simp [World.setCell, Array.getElem?_modify, hKa]
  have hmap : ∀ {m : Option Nat} {kv : List (Value × Value)}, MapIs w R m kv → MapIs ((w.alloc (.map #[] 0)).setCell ⟨K, 3, none⟩ (.map (some w.heap.size))) R m kv := by
    intro m kv hm
    rcases hm with hm | ⟨b, es, clk, rfl, hr, hbb, he⟩
    · exact .inl hm
    · refine .inr ⟨b, es, clk, rfl, hr, ?_, he⟩
      rw [hold b (Array.getElem?_eq_some_iff.1 hbb).1 (by rintro rfl; rw [hK] at hbb; cases hbb)]
      exact hbb
  have hfresh : MapIs ((w.alloc (.map #[] 0)).setCell ⟨K, 3, none⟩ (.map (some w.heap.size))) R (some w.heap.size) (oKV s.O) := by
    rcases ho with ⟨_, e⟩ | ⟨b', es', clk', e, _⟩
    · exact .inr ⟨w.heap.size, #[], 0, rfl, fun hr => by have := h2 _ hr; omega, hnew, by rw [e]; rfl⟩
    · cases e
  refine ⟨⟨h1, fun k hk => by rw [hsz]; have := h2 k hk; omega, jm, a, cap, pm, (some w.heap.size), hK2, hmap hj, hmap hp, hfresh, ?_, hg, (fun b e => ⟨(d1 b e).1, fun e2 => by have := (hj.lt _ e).1; cases e2; omega⟩), (fun b e e2 => by have := (hp.lt _ e).1; cases e2; omega)⟩, ⟨rfl, rfl, rfl, by rw [hsz]; omega, fun k hk => hold k (h2 k hk) (fun e => h1 (by rw [← e]; exact hk))⟩, hK2⟩
  refine ⟨hc.1, ?_⟩
  rcases hc.2 with c2 | ⟨g, cp, cur, hv, hb0, hh, r⟩
  · exact .inl c2
  · refine .inr ⟨g, cp, cur, hv, hb0, ?_, r⟩
    rw [hold g (Array.getElem?_eq_some_iff.1 hh).1 (by rintro rfl; rw [hK] at hh; simp at hh)]
    exact hh

end Go.Proofs.Qxb6000395a
