/-
  Seat b6000395a: documentKeys in memory; codeNumber.
-/
import Derived.Test.Qxb6000395aClone
import Derived.Deep.RegionHeld3
import Derived.Deep.AppendLies
import Derived.Deep.RegionLaw
import Derived.Deep.DrawnRows
namespace Go.Proofs.Qxb6000395a
open Go.RowKit
set_option linter.unusedVariables false
attribute [local go_sem ↓] Go.wp_at_zero Go.wp_at_succ

/-- What a documentKeys holds, as plain lists, each in the order in which it came. -/
structure St where
  J : List ByteArray
  C : List ByteArray
  P : List (Int × Int)
  O : List ((ByteArray × ByteArray) × (Int × ByteArray))
  n : Int

def jKV (J : List ByteArray) : List (Value × Value) := J.zipIdx.map (fun p => (.string p.1, .int .u64 (p.2 : Int)))
def pKV (P : List (Int × Int)) : List (Value × Value) := P.map (fun p => (.int .u64 p.1, .int .u64 p.2))
def oKV (O : List ((ByteArray × ByteArray) × (Int × ByteArray))) : List (Value × Value) :=
  O.map (fun p => (.agg #[.string p.1.1, .string p.1.2], .agg #[.int .i64 p.2.1, .string p.2.2]))

/-- The map m is nil and nothing is in it; or its block, which is none of R's, holds just these keys and values. -/
def MapIs (w : World) (R : Nat → Prop) (m : Option Nat) (kv : List (Value × Value)) : Prop :=
  (m = none ∧ kv = []) ∨ ∃ b es clk, m = some b ∧ ¬ R b ∧ w.heap[b]? = some (.map es clk) ∧ es.toList.map (fun e => (e.key, e.val)) = kv

/-- R's blocks, and the world's streams, are as they were; no block has gone. -/
structure Kept (R : Nat → Prop) (w w' : World) : Prop where
  os : w'.os = w.os
  tape : w'.tape = w.tape
  output : w'.output = w.output
  size : w.heap.size ≤ w'.heap.size
  block : ∀ k, R k → w'.heap[k]? = w.heap[k]?

theorem Kept.refl (R : Nat → Prop) (w : World) : Kept R w w := ⟨rfl, rfl, rfl, Nat.le_refl _, fun _ _ => rfl⟩
theorem Kept.trans {R : Nat → Prop} {a b c : World} (h : Kept R a b) (k : Kept R b c) : Kept R a c :=
  ⟨k.os.trans h.os, k.tape.trans h.tape, k.output.trans h.output, Nat.le_trans h.size k.size, fun i hi => (k.block i hi).trans (h.block i hi)⟩
theorem Kept.of_below {R : Nat → Prop} {B : Nat} {a b : World} (h : Below B a b) (hR : ∀ k, R k → k < B) : Kept R a b :=
  ⟨h.os, h.tape, h.output, h.size, fun k hk => h.block k (hR k hk)⟩
theorem Kept.below {R : Nat → Prop} {B : Nat} {a b : World} (h : Kept R a b) (hR : ∀ k, k < B → R k) : Below B a b :=
  ⟨h.os, h.tape, h.output, h.size, fun k hk => h.block k (hR k hk)⟩
theorem Kept.drew {R : Nat → Prop} {a b : World} (h : Kept R a b) : Kept R a b.drew := ⟨h.os, h.tape, h.output, h.size, h.block⟩
theorem Kept.cell {R : Nat → Prop} {a b : World} (h : Kept R a b) {p : Addr} (hp : R p.block) : b.cell? p = a.cell? p := World.cell?_of_block (h.block _ hp)
theorem Kept.rowIs {R : Nat → Prop} {a b : World} (h : Kept R a b) {g : Nat} {t : TypeId} {n : Nat} {f : Nat → Value} (hr : a.rowIs g t n f) (hp : R g) : b.rowIs g t n f := hr.of_block (h.block _ hp)

/-- A documentKeys at block K, none of whose blocks is one of R's. -/
def KeysAt (w : World) (K : Nat) (R : Nat → Prop) (s : St) : Prop :=
  ¬ R K ∧ (∀ k, R k → k < w.heap.size) ∧ ∃ jm a cap pm om,
    w.heap[K]? = some (.cells #[.map jm, .slice a s.C.length cap, .map pm, .map om, .int .i64 s.n] 49 (0, 0)) ∧
    MapIs w R jm (jKV s.J) ∧ MapIs w R pm (pKV s.P) ∧ MapIs w R om (oKV s.O) ∧
    w.ownsRow 0 9 1 (.slice a s.C.length cap) s.C.length (s.C.map Value.string) ∧ (∀ g, (Value.slice a s.C.length cap).ownBlock = some g → ¬ R g) ∧
    (∀ b, jm = some b → pm ≠ some b ∧ om ≠ some b) ∧ (∀ b, pm = some b → om ≠ some b)

theorem MapIs.of_same {w w' : World} {R R' : Nat → Prop} {m : Option Nat} {kv : List (Value × Value)} (h : MapIs w R m kv)
    (hsame : ∀ b, m = some b → b < w.heap.size → ¬ R b → w'.heap[b]? = w.heap[b]?) (hR : ∀ b, m = some b → b < w.heap.size → ¬ R b → ¬ R' b) : MapIs w' R' m kv := by
  rcases h with h | ⟨b, es, clk, rfl, hr, hb, he⟩
  · exact .inl h
  · have hlt := (Array.getElem?_eq_some_iff.1 hb).1
    exact .inr ⟨b, es, clk, rfl, hR b rfl hlt hr, (hsame b rfl hlt hr).trans hb, he⟩

theorem MapIs.lt {w : World} {R : Nat → Prop} {m : Option Nat} {kv : List (Value × Value)} (h : MapIs w R m kv) : ∀ b, m = some b → b < w.heap.size ∧ ¬ R b := by
  intro b e
  rcases h with ⟨h, _⟩ | ⟨b', es, clk, rfl, hr, hb, he⟩
  · rw [h] at e; cases e
  · cases e
    exact ⟨(Array.getElem?_eq_some_iff.1 hb).1, hr⟩

/-- The keeper of R writes to R's blocks, and makes new ones, and takes other ones among R: the keys stand. -/
theorem KeysAt.of_same {w w' : World} {K : Nat} {R R' : Nat → Prop} {s : St} (h : KeysAt w K R s) (hs : w.heap.size ≤ w'.heap.size)
    (hsame : ∀ k, k < w.heap.size → ¬ R k → w'.heap[k]? = w.heap[k]?) (hR : ∀ k, k < w.heap.size → ¬ R k → ¬ R' k) (hlt : ∀ k, R' k → k < w'.heap.size) : KeysAt w' K R' s := by
  obtain ⟨h1, h2, jm, a, cap, pm, om, hK, hj, hp, ho, hc, hg, d1, d2⟩ := h
  have hKlt := (Array.getElem?_eq_some_iff.1 hK).1
  refine ⟨hR K hKlt h1, hlt, jm, a, cap, pm, om, (hsame K hKlt h1).trans hK, hj.of_same (fun b _ => hsame b) (fun b _ => hR b), hp.of_same (fun b _ => hsame b) (fun b _ => hR b), ho.of_same (fun b _ => hsame b) (fun b _ => hR b), ?_, ?_, d1, d2⟩
  · rcases hc with ⟨c1, c2⟩
    refine ⟨c1, ?_⟩
    rcases c2 with c2 | ⟨g, cp, cur, hv, hb, hh, r⟩
    · exact .inl c2
    · exact .inr ⟨g, cp, cur, hv, hb, (hsame g (Array.getElem?_eq_some_iff.1 hh).1 (hg g (by rw [hv]; rfl))).trans hh, r⟩
  · intro g e
    exact hR g (hc.lt g e).2 (hg g e)

theorem KeysAt.drew {w : World} {K : Nat} {R : Nat → Prop} {s : St} (h : KeysAt w K R s) : KeysAt w.drew K R s := h

/-- The strings of an owned row. -/
theorem strsAt_of_owns {w : World} {a : Option Addr} {cap : Nat} {C : List ByteArray} (h : w.ownsRow 0 9 1 (.slice a C.length cap) C.length (C.map Value.string)) : StrsAt w a C := by
  intro k hk
  rcases h.2 with ⟨_, h0⟩ | ⟨g, cp, cur, hv, _, hh, r⟩
  · omega
  · cases hv
    refine ⟨g, 0, rfl, (Array.getElem?_eq_some_iff.1 hh).1, ?_⟩
    have := h.cells (g := g) rfl k (.string (gs C k)) (by simp [gs, List.getD, hk])
    rw [Addr.add_lit] at this
    exact this

/-- The place of a code among the codes met, from 0; their number where it is not among them. -/
def idx (C : List ByteArray) (c : ByteArray) : Nat := C.findIdx (fun x => decide (x = c))
/-- The codes behind a call of codeNumber. -/
def addC (C : List ByteArray) (c : ByteArray) : List ByteArray := if idx C c < C.length then C else C ++ [c]

theorem idx_at {C : List ByteArray} {c : ByteArray} {k : Nat} (hk : k < C.length) (he : gs C k = c) (hn : ∀ j, j < k → gs C j ≠ c) : idx C c = k := by
  unfold idx
  rw [List.findIdx_eq hk]
  refine ⟨by simpa [gs, List.getD, hk] using he, fun j hj => ?_⟩
  have := hn j hj
  simp [gs, List.getD, show j < C.length by omega] at this
  simpa using this

theorem idx_none {C : List ByteArray} {c : ByteArray} (hn : ∀ j, j < C.length → gs C j ≠ c) : idx C c = C.length := by
  unfold idx
  rw [List.findIdx_eq_length]
  intro x hx
  obtain ⟨j, hj, rfl⟩ := List.mem_iff_getElem.1 hx
  have := hn j hj
  simpa [gs, List.getD, hj] using this

theorem owns_below {w w1 : World} {B e z n : Nat} {v : Value} {xs : List Value} (h : w.ownsRow B e z v n xs) (hb : Below w.heap.size w w1) : w1.ownsRow B e z v n xs :=
  h.kept (row := none) ⟨hb.os, hb.tape, hb.output, hb.size, fun k hk _ => hb.block k hk⟩ (by cases hv : v.ownBlock <;> simp)

theorem row_ne {w : World} {K n : Nat} {cs : Array Value} {v : Value} {xs : List Value} (hK : w.heap[K]? = some (.cells cs 49 (0, 0))) (hc : w.ownsRow 0 9 1 v n xs) : some K ≠ v.ownBlock := by
  intro e
  rcases hc.2 with ⟨hv, _⟩ | ⟨g', cp, cur, hv, _, hh, _⟩
  · rw [hv] at e; simp [Value.ownBlock] at e
  · rw [hv] at e
    simp [Value.ownBlock] at e
    subst e
    rw [hK] at hh
    simp at hh

theorem str_eq {a b : ByteArray} : (a.toList == b.toList) = true ↔ a = b := by
  rw [beq_iff_eq, ByteArray.toList_eq, ByteArray.toList_eq]
  constructor
  · intro h
    exact ByteArray.ext (Array.toList_inj.1 h)
  · intro h
    rw [h]
theorem str_ne {a b : ByteArray} : (a.toList == b.toList) = false ↔ a ≠ b := by
  rw [← Bool.not_eq_true, ne_eq, not_congr str_eq]

/-- The codes have grown by one: what the append and the store of the field leave. -/
theorem KeysAt.pushed {w w2 : World} {K : Nat} {R : Nat → Prop} {s : St} (h : KeysAt w K R s) {jm pm om : Option Nat} {a : Option Addr} {cap : Nat} {code : ByteArray}
    (hK : w.heap[K]? = some (.cells #[.map jm, .slice a s.C.length cap, .map pm, .map om, .int .i64 s.n] 49 (0, 0))) (hsz : w.heap.size ≤ w2.heap.size)
    (hb : ∀ k, k < w.heap.size → some k ≠ (Value.slice a s.C.length cap).ownBlock → w2.heap[k]? = w.heap[k]?) {g cap' : Nat}
    (hown : w2.ownsRow 0 9 1 (.slice (some ⟨g, 0, none⟩) (s.C.length + 1) cap') (s.C.length + 1) (s.C.map Value.string ++ [.string code]))
    (hat : (Value.slice a s.C.length cap).ownBlock = some g ∨ w.heap.size ≤ g) :
    KeysAt (w2.setCell ⟨K, 1, none⟩ (.slice (some ⟨g, 0, none⟩) (s.C.length + 1) cap')) K R { s with C := s.C ++ [code] } ∧
      ∀ k, R k → (w2.setCell ⟨K, 1, none⟩ (.slice (some ⟨g, 0, none⟩) (s.C.length + 1) cap')).heap[k]? = w.heap[k]? := by
  obtain ⟨h1, h2, jm', a', cap2, pm', om', hK', hj, hp, ho, hc, hg, d1, d2⟩ := h
  rw [hK] at hK'
  simp only [Option.some.injEq, Obj.cells.injEq, Array.mk.injEq, List.cons.injEq, Value.map.injEq, Value.slice.injEq, and_true, true_and] at hK'
  obtain ⟨rfl, ⟨rfl, rfl⟩, rfl, rfl⟩ := hK'
  have hKlt := (Array.getElem?_eq_some_iff.1 hK).1
  have hKrow : some K ≠ (Value.slice a s.C.length cap).ownBlock := by
    intro e
    rcases hc.2 with ⟨hv, _⟩ | ⟨g', cp, cur, hv, _, hh, _⟩
    · rw [hv] at e; simp [Value.ownBlock] at e
    · rw [hv] at e
      simp [Value.ownBlock] at e
      subst e
      rw [hK] at hh
      simp at hh
  have hK2 := (hb K hKlt hKrow).trans hK
  have hgrow : ∃ cur, w2.heap[g]? = some (.cells cur 9 (0, 0)) := by
    rcases hown.2 with ⟨hv, _⟩ | ⟨g', cp, cur, hv, _, hh, _⟩
    · cases hv
    · cases hv
      exact ⟨cur, hh⟩
  have hgK : g ≠ K := by
    rintro rfl
    obtain ⟨cur, hh⟩ := hgrow
    rw [hK2] at hh
    simp at hh
  have hmap : ∀ {m : Option Nat} {kv : List (Value × Value)}, MapIs w R m kv → MapIs (w2.setCell ⟨K, 1, none⟩ (.slice (some ⟨g, 0, none⟩) (s.C.length + 1) cap')) R m kv := by
    intro m kv hm
    rcases hm with hm | ⟨b, es, clk, rfl, hr, hbb, he⟩
    · exact .inl hm
    · refine .inr ⟨b, es, clk, rfl, hr, ?_, he⟩
      have hbK : b ≠ K := by rintro rfl; rw [hK] at hbb; cases hbb
      rw [Below.heap_setCell _ _ _ _ (by simpa using hbK), hb b (Array.getElem?_eq_some_iff.1 hbb).1 ?_]
      · exact hbb
      · intro e
        rcases hc.2 with ⟨hv, _⟩ | ⟨g', cp, cur, hv, _, hh, _⟩
        · rw [hv] at e; simp [Value.ownBlock] at e
        · rw [hv] at e
          simp [Value.ownBlock] at e
          subst e
          rw [hh] at hbb
          cases hbb
  have hsize : (w2.setCell ⟨K, 1, none⟩ (.slice (some ⟨g, 0, none⟩) (s.C.length + 1) cap')).heap.size = w2.heap.size := by simp [World.setCell]
  refine ⟨⟨h1, fun k hk => by rw [hsize]; have := h2 k hk; omega, jm, some ⟨g, 0, none⟩, cap', pm, om, ?_, hmap hj, hmap hp, hmap ho, ?_, ?_, d1, d2⟩, ?_⟩
  · simp [World.setCell, Array.getElem?_modify, hK2]
  · have : (s.C ++ [code]).length = s.C.length + 1 := by simp
    rw [this, List.map_append]
    refine ⟨hown.1, ?_⟩
    rcases hown.2 with ⟨hv, _⟩ | ⟨g', cp, cur, hv, hb0, hh, r⟩
    · cases hv
    · cases hv
      exact .inr ⟨g, cap', cur, rfl, hb0, by rw [Below.heap_setCell _ _ _ _ (by simpa using hgK)]; exact hh, r⟩
  · intro g' e
    simp [Value.ownBlock] at e
    subst e
    rcases hat with hat | hat
    · exact hg g hat
    · intro hr
      have := h2 g hr
      omega
  · intro k hk
    rw [Below.heap_setCell _ _ _ _ (by rintro rfl; exact h1 hk), hb k (h2 k hk) ?_]
    intro e
    exact hg k e.symm hk

def CodePost (w : World) (K : Nat) (R : Nat → Prop) (s : St) (code : ByteArray) (e : Ending) (w' : World) : Prop :=
  e = .returned (.int .i64 (idx s.C code + 1 : Nat)) ∧ KeysAt w' K R { s with C := addC s.C code } ∧ Kept R w w'

theorem code_fin {w w1 w2 : World} {K : Nat} {R : Nat → Prop} {s : St} {code : ByteArray} (h : KeysAt w K R s) {jm pm om : Option Nat} {a : Option Addr} {cap : Nat}
    (hK : w.heap[K]? = some (.cells #[.map jm, .slice a s.C.length cap, .map pm, .map om, .int .i64 s.n] 49 (0, 0))) (hi : idx s.C code = s.C.length)
    (hb1 : Below w.heap.size w.drew w1) {o : Obj} (hgrow : (w1.alloc o).grownBy w2 (Value.slice a s.C.length cap).ownBlock) {g cap' : Nat}
    (hown : w2.ownsRow 0 9 1 (.slice (some ⟨g, 0, none⟩) (s.C.length + 1) cap') (s.C.length + 1) (s.C.map Value.string ++ [.string code]))
    (hat : (Value.slice a s.C.length cap).ownBlock = some g ∨ g = w1.heap.size + 1) {x : Int} (hx : x = (s.C.length + 1 : Nat)) :
    CodePost w K R s code (.returned (.int .i64 x)) (w2.setCell ⟨K, 1, none⟩ (.slice (some ⟨g, 0, none⟩) (s.C.length + 1) cap')) := by
  have hs1 : w.heap.size ≤ w1.heap.size := hb1.size
  have hs2 : w1.heap.size + 1 ≤ w2.heap.size := by have := hgrow.size; simpa using this
  have hb : ∀ k, k < w.heap.size → some k ≠ (Value.slice a s.C.length cap).ownBlock → w2.heap[k]? = w.heap[k]? := fun k hk hne => by
    rw [hgrow.block k (by simp; omega) hne, Below.heap_alloc _ _ _ (by omega)]
    exact hb1.block k hk
  obtain ⟨p1, p2⟩ := h.pushed hK (by omega) hb hown (by rcases hat with e | e; exact .inl e; right; omega)
  refine ⟨by rw [hi, hx], ?_, ⟨?_, ?_, ?_, ?_, p2⟩⟩
  · have : addC s.C code = s.C ++ [code] := by unfold addC; rw [hi, if_neg (by omega)]
    rw [this]
    exact p1
  · exact hgrow.os.trans hb1.os
  · exact hgrow.tape.trans hb1.tape
  · exact hgrow.output.trans hb1.output
  · simp [World.setCell]; omega

set_option maxHeartbeats 1000000 in
theorem code29 (w : World) (K : Nat) (R : Nat → Prop) (s : St) (code : ByteArray) (h : KeysAt w K R s) (hcode : code.size ≤ 1048576) (hC : s.C.length ≤ 1048576) :
    Calls Try.prog 29 #[.pointer (some ⟨K, 0, none⟩), .string code] w (CodePost w K R s code) := by
  have HK : Hid (KeysAt w K R s) := h
  obtain ⟨h1, h2, jm, a, cap, pm, om, hK, hj, hp, ho, hc, hg, d1, d2⟩ := h
  have hs := strsAt_of_owns hc
  have c1 : w.cell? ⟨K, 1, none⟩ = some (.slice a s.C.length cap) := by simp [World.cell?, hK]
  clear h1 h2 hj hp ho hg d1 d2
  go_enter Try.func29, Try.ntmps29
  go_wp2
  go_loop [12] (fun i => ∃ k : Nat, k ≤ s.C.length ∧ i = .int .i64 k ∧ Hid (∀ j, j < k → gs s.C j ≠ code)) (fun i => s.C.length - (intOf i).toNat)
  case atStart => exact ⟨0, Nat.zero_le _, rfl, fun j hj => by omega⟩
  case round =>
    obtain ⟨k, hk, rfl, hn⟩ := hrel
    by_cases hlt : k < s.C.length
    · obtain ⟨b, off, rfl, _, hcell⟩ := hs k hlt
      go_wp2
      · go_ret
        have e := str_eq.1 (by assumption)
        have hi := idx_at hlt e hn.out
        refine ⟨by rw [hi]; exact congrArg Ending.returned (by go_num), ?_, Kept.refl _ _⟩
        have : addC s.C code = s.C := by unfold addC; rw [hi, if_pos hlt]
        rw [this]
        exact HK.out
      · have e := str_ne.1 (by assumption)
        go_round
        case rel => exact ⟨k + 1, by omega, by go_num, fun j hj => by
          rcases Nat.lt_or_ge j k with h3 | h3
          · exact hn.out j h3
          · obtain rfl : j = k := by omega
            exact e⟩
        case measure => simp [intOf]; omega
    · have hi : idx s.C code = s.C.length := idx_none (fun j hj => hn.out j (by omega))
      have HI : Hid (idx s.C code = s.C.length) := hi
      clear hi hn hs
      obtain ⟨i0, hi0, hz0, hz1, hz2⟩ := info_parts info9
      have hKlt : K < w.heap.size := (Array.getElem?_eq_some_iff.1 hK).1
      have fz : w.frozen? ⟨K, 1, none⟩ = false := by simp [World.frozen?, hK]
      have hrow : some K ≠ (Value.slice a s.C.length cap).ownBlock := row_ne hK hc
      have HK2 : Hid (w.heap[K]? = some (.cells #[.map jm, .slice a s.C.length cap, .map pm, .map om, .int .i64 s.n] 49 (0, 0))) := hK
      have HO : Hid (w.ownsRow 0 9 1 (.slice a s.C.length cap) s.C.length (s.C.map Value.string)) := hc
      clear hK hc
      go_wp2_with fail
      go_region_law (first
          | (refine step_append_lies _ (by rfl) _ _ _ (by rfl) 0 9 i0 _ 1 16 Try.underlying22 hi0 hz0 hz1 hz2 rfl (by omega) (.slice a s.C.length cap) s.C.length (s.C.map Value.string) (by rfl) (HO1.out.alloc _) ⟨w1.heap.size, 0, none⟩ 1 1 [.string code] (by rfl) (by rfl) (World.news_of_block (cs := #[.string code]) (t := 9) (fr := (0, 0)) (heap_alloc_new w1 _)) (by simp [Value.oneCell']) (by omega) (by unfold maxLen; omega) (by omega) (Nat.zero_le _) (w1.heap.size + 1) (by simp) ?_; intro gg cap2 w2 hown2 hgrow2 hat2 hlt2; have hk4 := (hgrow2.cell_far ⟨K, 1, none⟩ (by simp; omega) hrow).trans ((((Below.refl _ w1).alloc (Nat.le_refl _) _).cell (p := ⟨K, 1, none⟩) hk1).trans hk2); have hk5 := (hgrow2.frozen_far ⟨K, 1, none⟩ (by simp; omega) hrow).trans ((((Below.refl _ w1).alloc (Nat.le_refl _) _).frozen (p := ⟨K, 1, none⟩) hk1).trans hk3))
          | (go_simp; go_at_call 30; refine (clone30 code _ (by omega)).mono ?_; rintro e w1 ⟨rfl, hb1⟩; simp only []; have hk1 : K < w1.heap.size := Nat.lt_of_lt_of_le hKlt hb1.size; have hk2 := (hb1.cell (p := ⟨K, 1, none⟩) hKlt).trans c1; have hk3 := (hb1.frozen (p := ⟨K, 1, none⟩) hKlt).trans fz; have HO1 : Hid (w1.ownsRow 0 9 1 (.slice a s.C.length cap) s.C.length (s.C.map Value.string)) := owns_below (w := w.drew) HO.out hb1))
      all_goals go_wp2
      all_goals go_ret
      all_goals exact code_fin HK.out HK2.out HI.out hb1 hgrow2 hown2 hat2 (by omega)

end Go.Proofs.Qxb6000395a
