/-
  Seat b6000395a: the other two maps: map[uint64]uint64, map[[2]string]begun: look-ups; stores at a new key.
-/
import Derived.Test.Qxb6000395aPut
namespace Go.Proofs.Qxb6000395a
open Go.RowKit
set_option linter.unusedVariables false
set_option linter.unusedSimpArgs false

/-- The first entry at the key. -/
def lookK {A B : Type} [DecidableEq A] (kv : List (A × B)) (k : A) : Option B := (kv.find? (fun p => decide (k = p.1))).map (·.2)

theorem lookK_nil {A B : Type} [DecidableEq A] (k : A) : lookK ([] : List (A × B)) k = none := rfl
theorem lookK_cons {A B : Type} [DecidableEq A] (p : A × B) (kv : List (A × B)) (k : A) : lookK (p :: kv) k = if k = p.1 then some p.2 else lookK kv k := by
  unfold lookK
  rw [List.find?_cons]
  by_cases h : k = p.1 <;> simp [h]

theorem lookK_mem {A B : Type} [DecidableEq A] {kv : List (A × B)} {k : A} {v : B} (h : lookK kv k = some v) : (k, v) ∈ kv := by
  induction kv with
  | nil => cases h
  | cons p kv ih =>
    rw [lookK_cons] at h
    by_cases e : k = p.1
    · rw [if_pos e] at h
      cases h
      rw [e]
      exact List.mem_cons_self
    · rw [if_neg e] at h
      exact List.mem_cons_of_mem _ (ih h)

theorem lookK_none {A B : Type} [DecidableEq A] {kv : List (A × B)} {k : A} (h : lookK kv k = none) : ∀ v, (k, v) ∉ kv := by
  induction kv with
  | nil => intro v hv; cases hv
  | cons p kv ih =>
    intro v hv
    rw [lookK_cons] at h
    by_cases e : k = p.1
    · rw [if_pos e] at h; cases h
    · rw [if_neg e] at h
      rcases List.mem_cons.1 hv with hv | hv
      · exact e (by rw [← hv])
      · exact ih h v hv

theorem beq_int (a b : Int) : (a == b) = decide (a = b) := rfl

theorem findNow_u64 (k : Int) : ∀ (P : List (Int × Int)) (l : List MapEntry) (i : Nat), l.map (fun e => (e.key, e.val)) = pKV P →
    ∃ m, Instr.findNow (.int .u64) (.int .u64 k) l i = some ((lookK P k).map (fun v => (m, Value.int .u64 v)))
  | [], l, i, h => by
    have : l = [] := by simpa [pKV] using h
    subst this
    exact ⟨0, rfl⟩
  | p :: P, l, i, h => by
    cases l with
    | nil => simp [pKV] at h
    | cons e l =>
      simp only [pKV, List.map_cons, List.cons.injEq, Prod.mk.injEq] at h
      obtain ⟨⟨h1, h2⟩, h3⟩ := h
      obtain ⟨m, hm⟩ := findNow_u64 k P l (i + 1) h3
      rw [Instr.findNow, h1, lookK_cons]
      by_cases hx : k = p.1
      · exact ⟨i, by simp [Instr.sameNow, hx, h2]⟩
      · exact ⟨m, by simp [Instr.sameNow, hx, hm, beq_eq_false_iff_ne.2 hx]⟩

theorem find33 {P : List (Int × Int)} (k : Int) (w : World) (l : List MapEntry) (hl : l.map (fun e => (e.key, e.val)) = pKV P) :
    ∃ m, (Instr.findKey 33 (.int .u64 k) l).run Try.prog w = .ok ((lookK P k).map (fun v => (m, Value.int .u64 v))) w := by
  obtain ⟨m, hm⟩ := findNow_u64 k P l 0 hl
  exact ⟨m, by unfold Instr.findKey; simp [run_underlying Try.underlying33, hm]⟩

theorem check33 (em : Bool) (k : Int) (w : World) : (Instr.checkKey em 10000 33 (.int .u64 k)).run Try.prog w = .ok () w := by kernel_rfl

/-- 'v, found := k.packed[key]'. -/
theorem look46 {w : World} {R : Nat → Prop} {m : Option Nat} {P : List (Int × Int)} (h : MapIs w R m (pKV P)) (k : Int) :
    (Instr.lookup 46 (.map m) (.int .u64 k) true).run Try.prog w = .ok (.tuple #[.int .u64 ((lookK P k).getD 0), .bool (lookK P k).isSome]) w := by
  rcases h with ⟨rfl, hj⟩ | ⟨b, es, clk, rfl, _, hb, he⟩
  · have hP : P = [] := by cases P with
      | nil => rfl
      | cons x P => simp [pKV] at hj
    subst hP
    obtain ⟨i, hk⟩ := find33 (P := []) k w [] rfl
    rw [lookK_nil] at hk ⊢
    unfold Instr.lookup
    simp [run_underlying Try.underlying46, check33, hk]
  · obtain ⟨i, hk⟩ := find33 k w es.toList he
    unfold Instr.lookup
    cases hl : lookK P k with
    | none =>
      rw [hl] at hk
      simp [run_underlying Try.underlying46, getObj, Sem.run, hb, check33, hk]
    | some v =>
      rw [hl] at hk
      simp [run_underlying Try.underlying46, getObj, Sem.run, hb, check33, hk]

/-! ### Keys that are pairs of strings -/

theorem eq57 (a b c d : ByteArray) (w : World) : (Op.equal 57 (.agg #[.string a, .string b]) (.agg #[.string c, .string d])).run Try.prog w = .ok (decide ((a, b) = (c, d))) w := by
  unfold Op.equal Op.maxDepth
  show (Op.equalIn (9999 + 1) 57 _ _).run Try.prog w = _
  rw [Op.equalIn]
  have p0 : ∀ (x y : ByteArray) (W : World), (part 9 #[.string x, .string y] 0).run Try.prog W = .ok (.string x) W := fun x y W => by kernel_rfl
  have p1 : ∀ (x y : ByteArray) (W : World), (part 9 #[.string x, .string y] 1).run Try.prog W = .ok (.string y) W := fun x y W => by kernel_rfl
  have hs9 : ∀ W : World, (sizeOf 9).run Try.prog W = .ok 1 W := fun W => by kernel_rfl
  have he : ∀ (x y : ByteArray) (W : World), (Op.equalIn 9999 9 (.string x) (.string y)).run Try.prog W = .ok (x.toList == y.toList) W := fun x y W => run_equalIn_string W 9998 9 x y Try.underlying9
  simp [run_underlying Try.underlying57, hs9, p0, p1, he]
  rw [show List.range' 0 2 = [0, 1] from rfl]
  by_cases h1 : a = c
  · have t1 := str_eq.2 h1
    by_cases h2 : b = d
    · have t2 := str_eq.2 h2
      simp [p0, p1, he, h1, h2]
    · have t2 := str_ne.2 h2
      simp [p0, p1, he, h1, h2, t2]
  · have t1 := str_ne.2 h1
    simp [p0, p1, he, h1, t1]

theorem check57 (em : Bool) (a b : ByteArray) (w : World) : (Instr.checkKey em 10000 57 (.agg #[.string a, .string b])).run Try.prog w = .ok () w := by kernel_rfl

theorem findAsk57 (j n : ByteArray) (w : World) : ∀ (O : List ((ByteArray × ByteArray) × (Int × ByteArray))) (l : List MapEntry) (i : Nat), l.map (fun e => (e.key, e.val)) = oKV O →
    ∃ m, (Instr.findAsking 57 (.agg #[.string j, .string n]) l i).run Try.prog w = .ok ((lookK O (j, n)).map (fun v => (m, Value.agg #[.int .i64 v.1, .string v.2]))) w
  | [], l, i, h => by
    have : l = [] := by simpa [oKV] using h
    subst this
    exact ⟨0, rfl⟩
  | p :: O, l, i, h => by
    cases l with
    | nil => simp [oKV] at h
    | cons e l =>
      simp only [oKV, List.map_cons, List.cons.injEq, Prod.mk.injEq] at h
      obtain ⟨⟨h1, h2⟩, h3⟩ := h
      obtain ⟨m, hm⟩ := findAsk57 j n w O l (i + 1) h3
      rw [Instr.findAsking, h1, lookK_cons]
      obtain ⟨⟨pj, pn⟩, pl, pc⟩ := p
      by_cases hx : (j, n) = (pj, pn)
      · refine ⟨i, ?_⟩
        have := eq57 j n pj pn w
        rw [decide_eq_true hx] at this
        rw [if_pos hx]
        simp [this, h2]
      · refine ⟨m, ?_⟩
        have := eq57 j n pj pn w
        rw [decide_eq_false hx] at this
        rw [if_neg hx]
        simp [this, hm]

theorem find57 {O : List ((ByteArray × ByteArray) × (Int × ByteArray))} (j n : ByteArray) (w : World) (l : List MapEntry) (hl : l.map (fun e => (e.key, e.val)) = oKV O) :
    ∃ m, (Instr.findKey 57 (.agg #[.string j, .string n]) l).run Try.prog w = .ok ((lookK O (j, n)).map (fun v => (m, Value.agg #[.int .i64 v.1, .string v.2]))) w := by
  obtain ⟨m, hm⟩ := findAsk57 j n w O l 0 hl
  cases l with
  | nil =>
    have hO : O = [] := by cases O with
      | nil => rfl
      | cons x O => simp [oKV] at hl
    subst hO
    exact ⟨0, by unfold Instr.findKey; simp [run_underlying Try.underlying57, Instr.findNow, lookK_nil]⟩
  | cons e l => exact ⟨m, by unfold Instr.findKey; simp [run_underlying Try.underlying57, Instr.findNow, Instr.sameNow, hm]⟩

/-- 'b, found := k.other[[2]string{journal, number}]'. -/
theorem look47 {w : World} {R : Nat → Prop} {m : Option Nat} {O : List ((ByteArray × ByteArray) × (Int × ByteArray))} (h : MapIs w R m (oKV O)) (j n : ByteArray) :
    (Instr.lookup 47 (.map m) (.agg #[.string j, .string n]) true).run Try.prog w = .ok (.tuple #[.agg #[.int .i64 ((lookK O (j, n)).getD (0, ByteArray.empty)).1, .string ((lookK O (j, n)).getD (0, ByteArray.empty)).2], .bool (lookK O (j, n)).isSome]) w := by
  have hz : (zeroValue 55).run Try.prog w = .ok (.agg #[.int .i64 0, .string ByteArray.empty]) w := by kernel_rfl
  rcases h with ⟨rfl, hj⟩ | ⟨b, es, clk, rfl, _, hb, he⟩
  · have hO : O = [] := by cases O with
      | nil => rfl
      | cons x O => simp [oKV] at hj
    subst hO
    obtain ⟨i, hk⟩ := find57 (O := []) j n w [] rfl
    rw [lookK_nil] at hk ⊢
    unfold Instr.lookup
    simp [run_underlying Try.underlying47, check57, hk, hz]
  · obtain ⟨i, hk⟩ := find57 j n w es.toList he
    unfold Instr.lookup
    cases hl : lookK O (j, n) with
    | none =>
      rw [hl] at hk
      simp [run_underlying Try.underlying47, getObj, Sem.run, hb, check57, hk, hz]
    | some v =>
      rw [hl] at hk
      simp [run_underlying Try.underlying47, getObj, Sem.run, hb, check57, hk, hz]

end Go.Proofs.Qxb6000395a
