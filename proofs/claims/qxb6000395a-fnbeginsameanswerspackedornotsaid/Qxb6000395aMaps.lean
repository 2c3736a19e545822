/-
  Seat b6000395a: the maps of a documentKeys: a look-up, a store at a new key, the length.
-/
import Derived.Test.Qxb6000395aRank
import Derived.Laws.StructEq
namespace Go.Proofs.Qxb6000395a
open Go.RowKit
set_option linter.unusedVariables false
set_option linter.unusedSimpArgs false

/-! ### The journals: map[string]uint64 -/

theorem idx_cons (x : ByteArray) (J : List ByteArray) (s : ByteArray) : idx (x :: J) s = if x = s then 0 else idx J s + 1 := by
  unfold idx
  rw [List.findIdx_cons]
  by_cases h : x = s <;> simp [h]

theorem beq_str (a b : ByteArray) : (a == b) = decide (a = b) := by
  rw [beq_toListBytes]
  by_cases h : a = b
  · rw [str_eq.2 h]; simp [h]
  · rw [str_ne.2 h]; simp [h]

theorem findNow_str (s : ByteArray) : ∀ (J : List ByteArray) (l : List MapEntry) (n i : Nat), l.map (fun e => (e.key, e.val)) = (J.zipIdx n).map (fun p => (Value.string p.1, Value.int .u64 (p.2 : Int))) →
    Instr.findNow .string (.string s) l i = some (if idx J s < J.length then some (i + idx J s, Value.int .u64 ((n + idx J s : Nat) : Int)) else none)
  | [], l, n, i, h => by
    have : l = [] := by simpa using h
    subst this
    rfl
  | x :: J, l, n, i, h => by
    cases l with
    | nil => simp [List.zipIdx_cons] at h
    | cons e l =>
      simp only [List.map_cons, List.zipIdx_cons, List.cons.injEq, Prod.mk.injEq] at h
      obtain ⟨⟨h1, h2⟩, h3⟩ := h
      have ih := findNow_str s J l (n + 1) (i + 1) h3
      rw [Instr.findNow, h1]
      simp only [Instr.sameNow, beq_str]
      rw [idx_cons]
      by_cases hx : s = x
      · subst hx
        simp [h2]
      · have hx' : ¬ x = s := fun e => hx e.symm
        simp only [hx, decide_false, hx', if_false, ih, List.length_cons]
        have e1 : i + 1 + idx J s = i + (idx J s + 1) := by omega
        have e2 : n + 1 + idx J s = n + (idx J s + 1) := by omega
        rw [e1, e2]
        by_cases hl : idx J s < J.length
        · rw [if_pos hl, if_pos (by omega)]
        · rw [if_neg hl, if_neg (by omega)]

theorem check9 (em : Bool) (s : ByteArray) (w : World) : (Instr.checkKey em 10000 9 (.string s)).run Try.prog w = .ok () w := by kernel_rfl
theorem zero33 (w : World) : (zeroValue 33).run Try.prog w = .ok (.int .u64 0) w := by kernel_rfl

theorem find9 {J : List ByteArray} (s : ByteArray) (w : World) : ∀ l : List MapEntry, l.map (fun e => (e.key, e.val)) = jKV J →
    (Instr.findKey 9 (.string s) l).run Try.prog w = .ok (if idx J s < J.length then some (idx J s, Value.int .u64 ((idx J s : Nat) : Int)) else none) w := by
  intro l hl
  have := findNow_str s J l 0 0 hl
  simp only [Nat.zero_add] at this
  unfold Instr.findKey
  simp [run_underlying Try.underlying9, this]

/-- 'j, ok := k.journals[journal]'. -/
theorem look45 {w : World} {R : Nat → Prop} {m : Option Nat} {J : List ByteArray} (h : MapIs w R m (jKV J)) (s : ByteArray) :
    (Instr.lookup 45 (.map m) (.string s) true).run Try.prog w = .ok (.tuple #[.int .u64 (if idx J s < J.length then ((idx J s : Nat) : Int) else 0), .bool (decide (idx J s < J.length))]) w := by
  have key := find9 (J := J) s w
  rcases h with ⟨rfl, hj⟩ | ⟨b, es, clk, rfl, _, hb, he⟩
  · have hk := key [] (by rw [hj]; rfl)
    have hJ : J = [] := by
      cases J with
      | nil => rfl
      | cons x J => simp [jKV, List.zipIdx_cons] at hj
    subst hJ
    unfold Instr.lookup
    simp [run_underlying Try.underlying45, check9, hk, zero33]
  · have hk := key es.toList he
    unfold Instr.lookup
    by_cases hi : idx J s < J.length
    · simp only [hi, if_true] at hk
      simp [run_underlying Try.underlying45, getObj, Sem.run, hb, check9, hk, hi]
    · simp only [hi, if_false] at hk
      simp [run_underlying Try.underlying45, getObj, Sem.run, hb, check9, hk, zero33, hi]

/-- len of a map. -/
theorem len_map {w : World} {R : Nat → Prop} {m : Option Nat} {kv : List (Value × Value)} (h : MapIs w R m kv) {t k e : TypeId} (ht : Try.prog.underlying t = some (.map k e)) (ty : TypeId) :
    (Builtin.len_ #[t] ty #[.map m]).run Try.prog w = .ok (.int .i64 kv.length) w := by
  rcases h with ⟨rfl, hj⟩ | ⟨b, es, clk, rfl, _, hb, he⟩
  · subst hj
    simp [Builtin.len_, run_underlying ht, goInt]
  · have hl : kv.length = es.size := by rw [← he]; simp
    rw [hl]
    simp [Builtin.len_, run_underlying ht, getObj, Sem.run, hb, goInt]

theorem jKV_length (J : List ByteArray) : (jKV J).length = J.length := by simp [jKV]
theorem jKV_snoc (J : List ByteArray) (s : ByteArray) : jKV (J ++ [s]) = jKV J ++ [(.string s, .int .u64 (J.length : Int))] := by
  unfold jKV
  rw [List.zipIdx_append]
  simp
theorem pKV_snoc (P : List (Int × Int)) (k v : Int) : pKV (P ++ [(k, v)]) = pKV P ++ [(.int .u64 k, .int .u64 v)] := by simp [pKV]
theorem oKV_snoc (O : List ((ByteArray × ByteArray) × (Int × ByteArray))) (j n : ByteArray) (l : Int) (c : ByteArray) : oKV (O ++ [((j, n), (l, c))]) = oKV O ++ [(.agg #[.string j, .string n], .agg #[.int .i64 l, .string c])] := by simp [oKV]

/-- w2 is w, but for the map at block b, which has got one entry more, at its end. -/
structure Stored (w w2 : World) (b : Nat) (kv : List (Value × Value)) (key val : Value) : Prop where
  os : w2.os = w.os
  tape : w2.tape = w.tape
  output : w2.output = w.output
  size : w2.heap.size = w.heap.size
  block : ∀ k, k ≠ b → w2.heap[k]? = w.heap[k]?
  map : ∃ es clk, w2.heap[b]? = some (.map es clk) ∧ es.toList.map (fun e => (e.key, e.val)) = kv ++ [(key, val)]

/-- A store at a new key. -/
theorem store_new {w : World} {b : Nat} {es : Array MapEntry} {clk : Nat} {kv : List (Value × Value)} (hb : w.heap[b]? = some (.map es clk)) (he : es.toList.map (fun e => (e.key, e.val)) = kv)
    {t k e : TypeId} (ht : Try.prog.underlying t = some (.map k e)) {key : Value} (val : Value) (hck : (Instr.checkKey false 10000 k key).run Try.prog w = .ok () w)
    (hf : (Instr.findKey k key es.toList).run Try.prog w = .ok none w) :
    ∃ w2, (Instr.mapUpdate t (.map (some b)) key val).run Try.prog w = .ok () w2 ∧ Stored w w2 b kv key val := by
  have hlt := (Array.getElem?_eq_some_iff.1 hb).1
  refine ⟨{ w with heap := w.heap.setIfInBounds b (.map (es.push { key := key, val := val, born := clk }) (clk + 1)) }, ?_, rfl, rfl, rfl, by simp, ?_, ?_⟩
  · unfold Instr.mapUpdate
    simp [run_underlying ht, getObj, setObj, Sem.run, hb, hck, hf]
  · intro j hj
    simp [Array.getElem?_setIfInBounds, Ne.symm hj]
  · exact ⟨es.push { key := key, val := val, born := clk }, clk + 1, by simp [Array.getElem?_setIfInBounds, hlt], by simp [he]⟩

/-- The keys behind a store into one of their maps, once the state says so. -/
theorem Stored.other {w w2 : World} {b : Nat} {kv : List (Value × Value)} {key val : Value} (h : Stored w w2 b kv key val) {R : Nat → Prop} {m : Option Nat} {kv' : List (Value × Value)} (hm : MapIs w R m kv') (hne : m ≠ some b) : MapIs w2 R m kv' :=
  hm.of_same (fun c hc _ _ => h.block c (fun e => hne (by rw [hc, e]))) (fun _ _ _ h => h)

end Go.Proofs.Qxb6000395a
