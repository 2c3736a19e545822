/-
  Seat b6000395a: scripts of begin calls: the keys begun; what is found of a key; begin's two ways, each by its own contract.
-/
import Derived.Test.Qxb6000395aSmallTwo
import Derived.Test.Qxb6000395aLawFive
namespace Go.Proofs.Qxb6000395a
open Go.RowKit
set_option linter.unusedVariables false
set_option linter.unusedSimpArgs false

/-- The keys begun behind k calls. -/
def hist (js ns : List ByteArray) (f : Nat → Int) (cs : List ByteArray) : Nat → List Begun
  | 0 => []
  | k + 1 => if (lookK (hist js ns f cs k) (gs js k, gs ns k)).isSome = true then hist js ns f cs k else hist js ns f cs k ++ [((gs js k, gs ns k), (f k, gs cs k))]

theorem lookK_snoc {A B : Type} [DecidableEq A] (kv : List (A × B)) (p : A × B) (k : A) : lookK (kv ++ [p]) k = match lookK kv k with | some v => some v | none => if k = p.1 then some p.2 else none := by
  induction kv with
  | nil => rw [List.nil_append, lookK_cons, lookK_nil]
  | cons q kv ih =>
    rw [List.cons_append, lookK_cons, lookK_cons, ih]
    by_cases h : k = q.1 <;> simp [h]

/-- A pair that was not met. -/
theorem hist_none {js ns : List ByteArray} {f : Nat → Int} {cs : List ByteArray} {key : ByteArray × ByteArray} : ∀ k, (∀ q, q < k → (gs js q, gs ns q) ≠ key) → lookK (hist js ns f cs k) key = none
  | 0, _ => rfl
  | k + 1, h => by
    have ih := hist_none (f := f) (cs := cs) k (fun q hq => h q (by omega))
    unfold hist
    split
    · exact ih
    · rw [lookK_snoc, ih]
      show (if key = (gs js k, gs ns k) then _ else _) = _
      rw [if_neg (fun e => h k (by omega) e.symm)]

/-- A pair that was first met at p. -/
theorem hist_first {js ns : List ByteArray} {f : Nat → Int} {cs : List ByteArray} {key : ByteArray × ByteArray} {p : Nat} (hp : (gs js p, gs ns p) = key) (hn : ∀ q, q < p → (gs js q, gs ns q) ≠ key) :
    ∀ d, lookK (hist js ns f cs (p + 1 + d)) key = some (f p, gs cs p)
  | 0 => by
    have ih := hist_none (f := f) (cs := cs) p hn
    show lookK (hist js ns f cs (p + 1)) key = _
    unfold hist
    rw [hp, ih]
    simp only [Option.isSome_none, Bool.false_eq_true, if_false]
    rw [lookK_snoc, ih]
    simp
  | d + 1 => by
    have ih := hist_first (f := f) (cs := cs) hp hn d
    show lookK (hist js ns f cs (p + 1 + d + 1)) key = _
    unfold hist
    split
    · exact ih
    · rw [lookK_snoc, ih]

/-- It was met, at a first place; or it was not. -/
theorem first_or {js ns : List ByteArray} {key : ByteArray × ByteArray} : ∀ k, (∃ p, p < k ∧ (gs js p, gs ns p) = key ∧ ∀ q, q < p → (gs js q, gs ns q) ≠ key) ∨ (∀ q, q < k → (gs js q, gs ns q) ≠ key)
  | 0 => .inr (fun q hq => by omega)
  | k + 1 => by
    rcases first_or (js := js) (ns := ns) (key := key) k with ⟨p, h1, h2, h3⟩ | h
    · exact .inl ⟨p, by omega, h2, h3⟩
    · by_cases e : (gs js k, gs ns k) = key
      · exact .inl ⟨k, by omega, e, h⟩
      · refine .inr (fun q hq => ?_)
        rcases Nat.lt_or_ge q k with h1 | h1
        · exact h q h1
        · obtain rfl : q = k := by omega
          exact e

theorem hist_seen {js ns : List ByteArray} {f : Nat → Int} {cs : List ByteArray} {k : Nat} {v : Int × ByteArray} (h : lookK (hist js ns f cs k) (gs js k, gs ns k) = some v) : hist js ns f cs (k + 1) = hist js ns f cs k := by
  conv => lhs; unfold hist
  rw [h]
  rfl
theorem hist_new {js ns : List ByteArray} {f : Nat → Int} {cs : List ByteArray} {k : Nat} (h : lookK (hist js ns f cs k) (gs js k, gs ns k) = none) : hist js ns f cs (k + 1) = hist js ns f cs k ++ [((gs js k, gs ns k), (f k, gs cs k))] := by
  conv => lhs; unfold hist
  rw [h]
  rfl

/-! ### Begin's two ways -/

def NewBegPost (w : World) (K : Nat) (R : Nat → Prop) (m : Nat) (H : List Begun) (line : Int) (code : ByteArray) (e : Ending) (w' : World) : Prop :=
  e = .returned (.tuple #[.int .i64 line, .string code, .bool false]) ∧ Kept R w w' ∧ ∃ s', KeysAt w' K R s' ∧ s'.J.length ≤ 1024 ∧ s'.C.length ≤ m + 1 ∧ Beg s' H

def SeenBegPost (w : World) (K : Nat) (R : Nat → Prop) (m : Nat) (H : List Begun) (l : Int) (c : ByteArray) (e : Ending) (w' : World) : Prop :=
  e = .returned (.tuple #[.int .i64 l, .string c, .bool true]) ∧ Kept R w w' ∧ ∃ s', KeysAt w' K R s' ∧ s'.J.length ≤ 1024 ∧ s'.C.length ≤ m + 1 ∧ Beg s' H

theorem begin15_new (w : World) (K : Nat) (R : Nat → Prop) (s : St) (H : List Begun) (j n : ByteArray) (line : Int) (code : ByteArray) (m : Nat) (h : KeysAt w K R s) (hb : Beg s H) (hj : j.size ≤ 1048576) (hn : n.size ≤ 1048576) (hcode : code.size ≤ 1048576)
    (hJ : s.J.length ≤ 1024) (hC : s.C.length ≤ m) (hm : m ≤ 10000) (h0 : 0 ≤ line) (h63 : line ≤ 9223372036854775807) (hl : lookK H (j, n) = none) :
    Calls Try.prog 15 #[.pointer (some ⟨K, 0, none⟩), .string j, .string n, .int .i64 line, .string code] w (NewBegPost w K R m (H ++ [((j, n), (line, code))]) line code) := by
  refine (begin15 w K R s H j n line code h hb hj hn hcode hJ (by omega) h0 h63).mono ?_
  rintro e w' ⟨s', h1, h2, h3, h4, h5⟩
  rcases h5 with ⟨l, c, h6, rfl, h7⟩ | ⟨h6, rfl, h7⟩
  · rw [hl] at h6; cases h6
  · exact ⟨rfl, h2, s', h1, h3, by omega, h7⟩

theorem begin15_seen (w : World) (K : Nat) (R : Nat → Prop) (s : St) (H : List Begun) (j n : ByteArray) (line : Int) (code : ByteArray) (m : Nat) (l : Int) (c : ByteArray) (h : KeysAt w K R s) (hb : Beg s H) (hj : j.size ≤ 1048576) (hn : n.size ≤ 1048576) (hcode : code.size ≤ 1048576)
    (hJ : s.J.length ≤ 1024) (hC : s.C.length ≤ m) (hm : m ≤ 10000) (h0 : 0 ≤ line) (h63 : line ≤ 9223372036854775807) (hl : lookK H (j, n) = some (l, c)) :
    Calls Try.prog 15 #[.pointer (some ⟨K, 0, none⟩), .string j, .string n, .int .i64 line, .string code] w (SeenBegPost w K R m H l c) := by
  refine (begin15 w K R s H j n line code h hb hj hn hcode hJ (by omega) h0 h63).mono ?_
  rintro e w' ⟨s', h1, h2, h3, h4, h5⟩
  rcases h5 with ⟨l', c', h6, rfl, h7⟩ | ⟨h6, rfl, h7⟩
  · rw [hl] at h6
    cases h6
    exact ⟨rfl, h2, s', h1, h3, by omega, h7⟩
  · rw [hl] at h6; cases h6

/-- Before the k-th round: the keys at block K, all blocks of R kept. -/
def RelF (w0 : World) (K : Nat) (R : Nat → Prop) (m : Nat) (H : List Begun) (wr : World) : Prop :=
  Kept R w0 wr ∧ ∃ s, KeysAt wr K R s ∧ s.J.length ≤ 1024 ∧ s.C.length ≤ m ∧ Beg s H

theorem relF_drew {w0 wr : World} {K : Nat} {R : Nat → Prop} {m : Nat} {H : List Begun} (h : RelF w0 K R m H wr) (n : Nat) : RelF w0 K R m H (wr.drewN n) := ⟨h.1.drewN n, h.2⟩

theorem relF_start (w : World) : RelF w w.heap.size (fun k => k < w.heap.size) 0 [] (w.alloc (.cells freshCells 49)) :=
  ⟨Kept.of_below ((Below.refl _ _).alloc (Nat.le_refl _) _) (fun k hk => hk), St.fresh, KeysAt.made w _ (fun k hk => hk), Nat.zero_le _, Nat.zero_le _, Beg.fresh⟩

theorem relF_next {w0 wr w2 : World} {K : Nat} {R : Nat → Prop} {m : Nat} {H H' : List Begun} (h : RelF w0 K R m H wr) (hq : Kept R wr w2) (h2 : ∃ s', KeysAt w2 K R s' ∧ s'.J.length ≤ 1024 ∧ s'.C.length ≤ m + 1 ∧ Beg s' H') : RelF w0 K R (m + 1) H' w2 := ⟨h.1.trans hq, h2⟩

end Go.Proofs.Qxb6000395a
