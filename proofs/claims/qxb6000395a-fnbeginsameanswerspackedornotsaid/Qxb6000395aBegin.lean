/-
  Seat b6000395a: begin: the walk.
-/
import Derived.Test.Qxb6000395aBegPlain
import Derived.Test.Qxb6000395aPack
namespace Go.Proofs.Qxb6000395a
open Go.RowKit
set_option linter.unusedVariables false
set_option linter.unusedSimpArgs false

/-- What begin leaves, the keys begun so far being H. -/
def BegPost (w : World) (K : Nat) (R : Nat → Prop) (s : St) (H : List Begun) (j n : ByteArray) (line : Int) (code : ByteArray) (e : Ending) (w' : World) : Prop :=
  ∃ s', KeysAt w' K R s' ∧ Kept R w w' ∧ s'.J.length ≤ 1024 ∧ s'.C.length ≤ s.C.length + 1 ∧
    ((∃ l c, lookK H (j, n) = some (l, c) ∧ e = .returned (.tuple #[.int .i64 l, .string c, .bool true]) ∧ Beg s' H) ∨
      (lookK H (j, n) = none ∧ e = .returned (.tuple #[.int .i64 line, .string code, .bool false]) ∧ Beg s' (H ++ [((j, n), (line, code))])))

theorem Kept.drewN {R : Nat → Prop} {a b : World} (h : Kept R a b) (n : Nat) : Kept R a (b.drewN n) := ⟨h.os, h.tape, h.output, h.size, h.block⟩

theorem beg_seen {w w' : World} {K : Nat} {R : Nat → Prop} {s : St} {H : List Begun} {j n : ByteArray} {line : Int} {code : ByteArray} {l l' : Int} {c : ByteArray} (hb : Beg s H) (hJ : s.J.length ≤ 1024) (hk : KeysAt w' K R { s with J := addJ s.J j n }) (hq : Kept R w w')
    (hl : lookK H (j, n) = some (l, c)) (he : l' = l) : BegPost w K R s H j n line code (.returned (.tuple #[.int .i64 l', .string c, .bool true])) w' :=
  ⟨_, hk, hq, addJ_1024 _ _ hJ, Nat.le_succ _, .inl ⟨l, c, hl, by rw [he], hb.addJ j n⟩⟩

/-- The counter raised. -/
theorem KeysAt.setN {w : World} {K : Nat} {R : Nat → Prop} {s : St} (h : KeysAt w K R s) (m : Int) : KeysAt (w.setCell ⟨K, 4, none⟩ (.int .i64 m)) K R { s with n := m } ∧ Kept R w (w.setCell ⟨K, 4, none⟩ (.int .i64 m)) := by
  obtain ⟨h1, h2, jm, a, cap, pm, om, hK, hj, hp, ho, hc, hg, d1, d2⟩ := h
  have hold : ∀ k, k ≠ K → (w.setCell ⟨K, 4, none⟩ (.int .i64 m)).heap[k]? = w.heap[k]? := fun k hk => Below.heap_setCell _ _ _ _ (by simpa using hk)
  have hmap : ∀ {q : Option Nat} {kv : List (Value × Value)}, MapIs w R q kv → MapIs (w.setCell ⟨K, 4, none⟩ (.int .i64 m)) R q kv := by
    intro q kv hm
    rcases hm with hm | ⟨b, es, clk, rfl, hr, hbb, he⟩
    · exact .inl hm
    · refine .inr ⟨b, es, clk, rfl, hr, ?_, he⟩
      rw [hold b (by rintro rfl; rw [hK] at hbb; cases hbb)]
      exact hbb
  have hsz : (w.setCell ⟨K, 4, none⟩ (.int .i64 m)).heap.size = w.heap.size := by simp [World.setCell]
  refine ⟨⟨h1, fun k hk => by rw [hsz]; exact h2 k hk, jm, a, cap, pm, om, by simp [World.setCell, Array.getElem?_modify, hK], hmap hj, hmap hp, hmap ho, ?_, hg, d1, d2⟩, ⟨rfl, rfl, rfl, by rw [hsz]; exact Nat.le_refl _, fun k hk => hold k (fun e => h1 (by rw [← e]; exact hk))⟩⟩
  refine ⟨hc.1, ?_⟩
  rcases hc.2 with c2 | ⟨g, cp, cur, hv, hb0, hh, r⟩
  · exact .inl c2
  · exact .inr ⟨g, cp, cur, hv, hb0, by rw [hold g (by rintro rfl; rw [hK] at hh; simp at hh)]; exact hh, r⟩

theorem gs_idx {C : List ByteArray} {c : ByteArray} (h : idx C c < C.length) : gs C (idx C c) = c := by
  unfold gs
  rw [List.getD, List.getElem?_eq_getElem h, Option.getD_some]
  exact of_decide_eq_true (List.findIdx_getElem (p := fun x => decide (x = c)) (w := h))

theorem mask16 {v l : Int} {i : Nat} (hv : v = l * 65536 + ((i + 1 : Nat) : Int)) (h0 : 0 ≤ l) (h1 : l < 281474976710656) (hi : i + 1 < 65536) : bits .and .u64 v 65535 = (i : Int) + 1 := by
  have hn : v = ((v.toNat : Nat) : Int) := by omega
  rw [hn]
  have h2 : bits .and .u64 ((v.toNat : Nat) : Int) ((65535 : Nat) : Int) = ((v.toNat &&& 65535 : Nat) : Int) := u64_and_nat _ _ (by omega) (by omega)
  have h3 : v.toNat &&& 65535 = v.toNat % 65536 := Nat.and_two_pow_sub_one_eq_mod v.toNat 16
  rw [h3] at h2
  refine h2.trans ?_
  omega

/-- A store at a new key, at the operation. -/
theorem wpList_store_new {P : Program} {w : World} {ops : Array Oper} {rest : List Oper} {o : Oper} {a : Act} {Q : Exit → Act → World → Prop}
    (hg : o.guard = none) (m x v : Operand) (t : TypeId) (hop : o.op = Op.mapUpdate t m x v) (b : Nat) (kv : List (Value × Value)) (key val : Value) (hm : a.eval m = .map (some b)) (hx : a.eval x = key) (hv : a.eval v = val)
    (hst : ∃ w2, (Instr.mapUpdate t (.map (some b)) key val).run P w = .ok () w2 ∧ Stored w w2 b kv key val)
    (hK : ∀ w2, Stored w w2 b kv key val → wpList P ops Q rest (a.put o.dst undef) w2) : wpList P ops Q (o :: rest) a w := by
  obtain ⟨w2, hrun, hs⟩ := hst
  refine wpList_plain hg fun K' hK' => ?_
  unfold Oper.wp
  simp [execOp, hop, hm, hx, hv, hrun, Result.andThen]
  exact hK' _ _ (hK w2 hs)

theorem beg_step {wm a b : World} (h : Below wm.heap.size wm a) (hb : Below a.heap.size a b) : Below wm.heap.size wm b := h.trans (hb.mono h.size)

theorem beg_step2 {wm a b : World} (h : Below wm.heap.size wm a) (hb : Below a.drew.heap.size a.drew b) : Below wm.heap.size wm b := h.trans (Below.mono (B := a.heap.size) ⟨hb.os, hb.tape, hb.output, hb.size, hb.block⟩ h.size)

theorem mapP_of {w : World} {K : Nat} {R : Nat → Prop} {s : St} (h : KeysAt w K R s) {jm pm om : Option Nat} {a : Option Addr} {cap : Nat}
    (hK : w.heap[K]? = some (.cells #[.map jm, .slice a s.C.length cap, .map pm, .map om, .int .i64 s.n] 49 (0, 0))) : MapIs w R pm (pKV s.P) ∧ MapIs w R om (oKV s.O) ∧ StrsAt w a s.C := by
  obtain ⟨h1, h2, jm', a', cap2, pm', om', hK', hj, hp, ho, hc, hg, d1, d2⟩ := h
  rw [hK] at hK'
  simp only [Option.some.injEq, Obj.cells.injEq, Array.mk.injEq, List.cons.injEq, Value.map.injEq, Value.slice.injEq, and_true, true_and] at hK'
  obtain ⟨rfl, ⟨rfl, rfl⟩, rfl, rfl⟩ := hK'
  exact ⟨hp, ho, strsAt_of_owns hc⟩

theorem map_block {w : World} {R : Nat → Prop} {b : Nat} {kv : List (Value × Value)} (h : MapIs w R (some b) kv) : ∃ es clk, w.heap[b]? = some (.map es clk) ∧ es.toList.map (fun e => (e.key, e.val)) = kv := by
  rcases h with ⟨e, _⟩ | ⟨b', es, clk, e, _, h5, h6⟩
  · cases e
  · cases e
    exact ⟨es, clk, h5, h6⟩

/-- The state behind a key that is new, ahead of its store. -/
def midSt (s : St) (j n code : ByteArray) (m : Int) : St := { J := addJ s.J j n, C := addC s.C code, P := s.P, O := s.O, n := m }

theorem beg_mid {s : St} {H : List Begun} (hb : Beg s H) (j n code : ByteArray) (m : Int) : Beg (midSt s j n code m) H := (hb.addJ j n).addC code m

/-- The word that is kept of a packed key. -/
theorem word16 {line : Int} {i : Nat} (h0 : 0 ≤ line) (h48 : line < 281474976710656) (hi : i + 1 < 65536) : bits .or .u64 (line * 65536) ((i : Int) + 1) = line * 65536 + ((i + 1 : Nat) : Int) := by
  obtain ⟨l, rfl⟩ := Int.eq_ofNat_of_zero_le h0
  have e1 : (l : Int) * 65536 = ((l * 65536 : Nat) : Int) := by omega
  have e2 : (i : Int) + 1 = ((i + 1 : Nat) : Int) := by omega
  rw [e1, e2, u64_or_nat _ _ (by omega) (by omega)]
  have e3 : l * 65536 ||| (i + 1) = l * 65536 + (i + 1) := nat_join 16 _ _ (by omega) (by omega)
  rw [e3]
  omega

theorem beg_putP {w w4 w5 : World} {K : Nat} {R : Nat → Prop} {s : St} {H : List Begun} {j n code : ByteArray} {line m v : Int} {b : Nat} {jm om : Option Nat} {a : Option Addr} {cap : Nat} (hb : Beg s H) (hJ : s.J.length ≤ 1024) (hC : s.C.length ≤ 10000)
    (hn : lookK H (j, n) = none) (hpk : packs s.J j n = true) (h0 : 0 ≤ line) (h48 : line < 281474976710656) (hk : KeysAt w4 K R (midSt s j n code m)) (hq : Kept R w w4)
    (hK : w4.heap[K]? = some (.cells #[.map jm, .slice a (addC s.C code).length cap, .map (some b), .map om, .int .i64 m] 49 (0, 0)))
    (hst : Stored w4 w5 b (pKV s.P) (.int .u64 (keyFor s.J j n : Nat)) (.int .u64 v)) (hv : v = line * 65536 + ((idx s.C code + 1 : Nat) : Int)) :
    BegPost w K R s H j n line code (.returned (.tuple #[.int .i64 line, .string code, .bool false])) w5 := by
  obtain ⟨p1, p2, _⟩ := hk.putP (k := (keyFor s.J j n : Nat)) (v := v) hK hst
  have dn : Digs n := by
    unfold packs at hpk
    simp only [Bool.and_eq_true] at hpk
    exact (digsB_iff _).1 hpk.1
  have hkey : keyFor s.J j n = keyOf3 (idx s.J j) n.size (valTo n n.size) := by unfold keyFor; rw [if_pos hpk]
  have ej : addJ s.J j n = addC s.J j := by unfold addJ; rw [if_pos hpk]
  have hij := idx_addC_self s.J j
  have hic := idx_addC_self s.C code
  have hle := idx_le s.C code
  have hf : Fits (midSt s j n code m).J (midSt s j n code m).C ((j, n), (line, code)) := by
    refine ⟨dn, ?_, h0, h48, ?_, ?_⟩
    · show idx (addJ s.J j n) j < (addJ s.J j n).length
      rw [ej, hij.1]; exact hij.2
    · show idx (addC s.C code) code < (addC s.C code).length
      rw [hic.1]; exact hic.2
    · show idx (addC s.C code) code + 1 < 65536
      rw [hic.1]; omega
  refine ⟨_, p1, hq.trans p2, addJ_1024 _ _ hJ, (addC_len s.C code).1, .inr ⟨hn, rfl, (beg_mid hb j n code m).putP hn hf ?_⟩⟩
  show (((keyFor s.J j n : Nat) : Int), v) = (((keyOf3 (idx (addJ s.J j n) j) n.size (valTo n n.size) : Nat) : Int), line * 65536 + ((idx (addC s.C code) code + 1 : Nat) : Int))
  rw [ej, hij.1, hic.1, hkey, hv]

theorem beg_putO {w w4 w5 : World} {K : Nat} {R : Nat → Prop} {s : St} {H : List Begun} {j n code : ByteArray} {line m : Int} {b : Nat} {jm pm : Option Nat} {a : Option Addr} {cap : Nat} (hb : Beg s H) (hJ : s.J.length ≤ 1024)
    (hn : lookK H (j, n) = none) (hk : KeysAt w4 K R (midSt s j n code m)) (hq : Kept R w w4)
    (hK : w4.heap[K]? = some (.cells #[.map jm, .slice a (addC s.C code).length cap, .map pm, .map (some b), .int .i64 m] 49 (0, 0)))
    (hst : Stored w4 w5 b (oKV s.O) (.agg #[.string j, .string n]) (.agg #[.int .i64 line, .string code])) :
    BegPost w K R s H j n line code (.returned (.tuple #[.int .i64 line, .string code, .bool false])) w5 := by
  obtain ⟨p1, p2, _⟩ := hk.putO (j := j) (n := n) (l := line) (c := code) hK hst
  exact ⟨_, p1, hq.trans p2, addJ_1024 _ _ hJ, (addC_len s.C code).1, .inr ⟨hn, rfl, (beg_mid hb j n code m).putO hn⟩⟩

set_option maxRecDepth 100000 in
set_option maxHeartbeats 2000000 in
theorem begin27 (w : World) (K : Nat) (R : Nat → Prop) (s : St) (H : List Begun) (j n : ByteArray) (line : Int) (code : ByteArray) (h : KeysAt w K R s) (hb : Beg s H) (hj : j.size ≤ 1048576) (hn : n.size ≤ 1048576) (hcode : code.size ≤ 1048576)
    (hJ : s.J.length ≤ 1024) (hC : s.C.length ≤ 10000) (h0 : 0 ≤ line) (h63 : line ≤ 9223372036854775807) :
    Calls Try.prog 27 #[.pointer (some ⟨K, 0, none⟩), .string j, .string n, .int .i64 line, .string code] w (BegPost w K R s H j n line code) := by
  have HB : Hid (Beg s H) := hb
  clear hb
  go_enter Try.func27, Try.ntmps27
  go_wp2_with fail
  refine (pack28 _ K R s j n h hj hn hJ).mono ?_
  rintro e w1 ⟨rfl, hK1, hq1⟩
  have HK1 : Hid (KeysAt w1 K R { s with J := addJ s.J j n }) := hK1
  have HQ1 : Hid (Kept R w w1) := hq1
  obtain ⟨g1, g2, jm, a, cap, pm, om, hK, hjm, hp, ho, hc, hg, d1, d2⟩ := hK1
  simp only [] at hK hjm hp ho hc
  have c1 : w1.cell? ⟨K, 1, none⟩ = some (.slice a s.C.length cap) := by simp [World.cell?, hK]
  have c2 : w1.cell? ⟨K, 2, none⟩ = some (.map pm) := by simp [World.cell?, hK]
  have c3 : w1.cell? ⟨K, 3, none⟩ = some (.map om) := by simp [World.cell?, hK]
  have c4 : w1.cell? ⟨K, 4, none⟩ = some (.int .i64 s.n) := by simp [World.cell?, hK]
  have f4 : w1.frozen? ⟨K, 4, none⟩ = false := by simp [World.frozen?, hK]
  have hlk := look46 hp (keyFor s.J j n : Nat)
  have hlo := look47 ho j n
  have hstr := strsAt_of_owns hc
  have hKlt : K < w1.heap.size := (Array.getElem?_eq_some_iff.1 hK).1
  clear g1 g2 hjm hp ho hc hg d1 d2 hK h hq1
  cases hpk : packs s.J j n
  · -- it does not pack
    have HN : Hid (packs s.J j n = true → lookK s.P (keyFor s.J j n : Nat) = none) := fun h => by rw [hpk] at h; cases h
    cases hlo2 : lookK s.O (j, n) with
    | some v =>
      obtain ⟨l, c⟩ := v
      rw [hlo2] at hlo
      simp only [Option.getD_some, Option.isSome_some] at hlo
      have HL : Hid _ := HB.out.other hlo2
      have HKW : Hid _ := HK1.out.later ((Below.refl _ w1).alloc (Nat.le_refl _) (.cells #[.int .i64 l, .string c] 55))
      have HQW : Hid _ := HQ1.out.trans (Kept.of_below ((Below.refl _ w1).alloc (Nat.le_refl _) (.cells #[.int .i64 l, .string c] 55)) HK1.out.2.1)
      clear hlo2
      go_wp2
      go_quiet (fail)
      go_wp2
      go_ret3
      exact beg_seen HB.out hJ HKW.out (HQW.out.drewN _) HL.out rfl
    | none =>
      rw [hlo2] at hlo
      simp only [Option.getD_none, Option.isSome_none] at hlo
      have HL : Hid _ := HB.out.new HN.out hlo2
      have HLO : Hid _ := hlo2
      clear hlo2
      go_wp2_with fail
      have hKW := (HK1.out.setN (wrap64 (s.n + 1))).1.later ((Below.refl _ _).alloc (Nat.le_refl _) (.cells #[.int .i64 0, .string ByteArray.empty] 55))
      have HQW : Hid (Kept R w ((w1.setCell ⟨K, 4, none⟩ (.int .i64 (wrap64 (s.n + 1)))).alloc (.cells #[.int .i64 0, .string ByteArray.empty] 55))) := HQ1.out.trans ((HK1.out.setN (wrap64 (s.n + 1))).2.trans (Kept.of_below ((Below.refl _ _).alloc (Nat.le_refl _) _) (HK1.out.setN (wrap64 (s.n + 1))).1.2.1))
      refine (code29 _ K R _ code hKW hcode (by simp; omega)).mono ?_
      rintro e w3 ⟨rfl, hK3, hq3⟩
      have HK3 : Hid (KeysAt w3 K R (midSt s j n code (wrap64 (s.n + 1)))) := hK3
      have HQ3 : Hid (Kept R w w3) := HQW.out.trans hq3
      obtain ⟨g1, g2, jm3, a3, cap3, pm3, om3, hK3', _⟩ := hK3
      replace hK3' : w3.heap[K]? = some (.cells #[.map jm3, .slice a3 (addC s.C code).length cap3, .map pm3, .map om3, .int .i64 (wrap64 (s.n + 1))] 49 (0, 0)) := hK3'
      have e1 : w3.cell? ⟨K, 1, none⟩ = some (.slice a3 (addC s.C code).length cap3) := by simp [World.cell?, hK3']
      have e2 : w3.cell? ⟨K, 2, none⟩ = some (.map pm3) := by simp [World.cell?, hK3']
      have e3 : w3.cell? ⟨K, 3, none⟩ = some (.map om3) := by simp [World.cell?, hK3']
      have x2 : w3.frozen? ⟨K, 2, none⟩ = false := by simp [World.frozen?, hK3']
      have x3 : w3.frozen? ⟨K, 3, none⟩ = false := by simp [World.frozen?, hK3']
      have hKlt3 : K < w3.heap.size := (Array.getElem?_eq_some_iff.1 hK3').1
      have HKK : Hid _ := hK3'
      have hic : idx s.C code + 1 < 65536 := by have := idx_le s.C code; omega
      have hmm := @run_makeMap Try.prog
      have q46 := fun (W : World) (r : Option Nat) => run_eql_map_nil (P := Try.prog) W 46 33 33 r Try.underlying46
      have q47 := fun (W : World) (r : Option Nat) => run_eql_map_nil (P := Try.prog) W 47 57 55 r Try.underlying47
      have hdc : decide ((idx s.C code : Int) + 1 < 65536) = true := decide_eq_true (by omega)
      clear g1 g2 hK3' hKW hq3 c1 c2 c3 c4 f4 hlk hlo hstr hKlt
      cases om3 with
      | none =>
        obtain ⟨m1, m2, m3⟩ := HK3.out.mkO HKK.out
        rw [World.setCell_alloc_past _ _ _ _ hKlt3] at m1 m2 m3
        have HM1 : Hid _ := m1
        have HM2 : Hid _ := HQ3.out.trans m2
        have HM3 : Hid (_ = some (Obj.cells #[.map _, .slice a3 (addC s.C code).length cap3, .map _, .map _, .int .i64 (wrap64 (s.n + 1))] 49 (0, 0))) := m3
        clear m1 m2 m3
        go_wp2_with fail
        clear e1 e2 e3 x2 x3 hmm q46 q47
        generalize hb9 : w3.heap.size = b9 at HM1 HM2 HM3 ⊢
        generalize (w3.setCell ⟨K, 3, none⟩ (.map (some b9))).alloc (.map #[] 0) = wm at HM1 HM2 HM3 ⊢
        have KLT : K < wm.heap.size := (Array.getElem?_eq_some_iff.1 HM3.out).1
        have hstr3 : StrsAt wm a3 (addC s.C code) := (mapP_of HM1.out HM3.out).2.2
        have hil : idx s.C code < (addC s.C code).length := (idx_addC_self s.C code).2
        obtain ⟨g, off, rfl, hgl, cc⟩ := hstr3 (idx s.C code) hil
        have hgc : gs (addC s.C code) (idx s.C code) = code := by
          have := gs_idx (C := addC s.C code) (c := code) (by rw [(idx_addC_self s.C code).1]; exact hil)
          rw [(idx_addC_self s.C code).1] at this
          exact this
        replace cc : wm.cell? ⟨g, off + idx s.C code, none⟩ = some (.string code) := cc.trans (by rw [hgc])
        obtain ⟨es, clk, hbb, he3⟩ := map_block (show MapIs wm R (some b9) (oKV s.O) from (mapP_of HM1.out HM3.out).2.1)
        have hblt : b9 < wm.heap.size := (Array.getElem?_eq_some_iff.1 hbb).1
        have hKb : K ≠ b9 := by
          intro e
          rw [← e, HM3.out] at hbb
          cases hbb
        have hgb : g ≠ b9 := by
          intro e
          have := cc
          rw [World.cell?, e, hbb] at this
          cases this
        have HE3 : Hid _ := he3
        have i0 : (0 : Int) ≤ (idx s.C code : Int) := by omega
        have hw1 : IntKind.i64.wrap (idx s.C code : Int) = (idx s.C code : Int) := by rw [IntKind.wrap_i64]; omega
        have i1 : (idx s.C code : Int) < ((addC s.C code).length : Int) := by omega
        obtain ⟨N, hN⟩ : ∃ N, N = wm.heap.size := ⟨_, rfl⟩
        have hKN : K < N := by rw [hN]; exact KLT
        have hgN : g < N := by rw [hN]; exact hgl
        have hbN : b9 < N := by rw [hN]; exact hblt
        have hlx : N ≤ wm.heap.size := by omega
        have HBB : Hid (wm.heap[b9]? = some (.map es clk)) := hbb
        have HBL : Hid (Below wm.heap.size wm wm) := Below.refl _ _
        have hS : wm.cell? ⟨K, 3, none⟩ = some (.map (some b9)) ∧ wm.cell? ⟨K, 1, none⟩ = some (.slice (some ⟨g, off, none⟩) (addC s.C code).length cap3) ∧ wm.cell? ⟨g, off + idx s.C code, none⟩ = some (.string code) := ⟨by simp [World.cell?, HM3.out], by simp [World.cell?, HM3.out], cc⟩
        clear hstr3 hgc cc hbb he3 hgl hblt hN
        go_region_held3 (fun w' => w'.cell? ⟨K, 3, none⟩ = some (.map (some b9)) ∧ w'.cell? ⟨K, 1, none⟩ = some (.slice (some ⟨g, off, none⟩) (addC s.C code).length cap3) ∧ w'.cell? ⟨g, off + idx s.C code, none⟩ = some (.string code))
          (first | exact hS | exact hS2)
          (first | (go_at_call 30; refine (clone30 _ _ (by omega)).mono ?_; rintro e wx ⟨rfl, hbx⟩; have hS := (⟨(hbx.cell (p := ⟨K, 3, none⟩) (Nat.lt_of_lt_of_le hKN hlx)).trans hS.1, (hbx.cell (p := ⟨K, 1, none⟩) (Nat.lt_of_lt_of_le hKN hlx)).trans hS.2.1, (hbx.cell (p := ⟨g, off + idx s.C code, none⟩) (Nat.lt_of_lt_of_le hgN hlx)).trans hS.2.2⟩ : wx.cell? ⟨K, 3, none⟩ = some (.map (some b9)) ∧ wx.cell? ⟨K, 1, none⟩ = some (.slice (some ⟨g, off, none⟩) (addC s.C code).length cap3) ∧ wx.cell? ⟨g, off + idx s.C code, none⟩ = some (.string code)); have HBB : Hid (wx.heap[b9]? = some (.map es clk)) := (hbx.block b9 (Nat.lt_of_lt_of_le hbN hlx)).trans HBB.out; have HBL : Hid (Below wm.heap.size wm wx) := (by first | exact beg_step HBL.out hbx | exact beg_step2 HBL.out hbx); have hlx : N ≤ wx.heap.size := Nat.le_trans hlx hbx.size; obtain ⟨wy, hrun, hst⟩ := store_new (w := wx) HBB.out HE3.out Try.underlying47 (.agg #[.int .i64 line, .string code]) (check57 false j n wx) (by obtain ⟨i, hi⟩ := find57 j n wx es.toList HE3.out; rw [HLO.out] at hi; exact hi); have hS2 := (⟨(World.cell?_of_block (a := ⟨K, 3, none⟩) (hst.block K hKb)).trans hS.1, (World.cell?_of_block (a := ⟨K, 1, none⟩) (hst.block K hKb)).trans hS.2.1, (World.cell?_of_block (a := ⟨g, off + idx s.C code, none⟩) (hst.block g hgb)).trans hS.2.2⟩ : wy.cell? ⟨K, 3, none⟩ = some (.map (some b9)) ∧ wy.cell? ⟨K, 1, none⟩ = some (.slice (some ⟨g, off, none⟩) (addC s.C code).length cap3) ∧ wy.cell? ⟨g, off + idx s.C code, none⟩ = some (.string code)); clear hbx))
        go_wp2
        go_ret3
        exact beg_putO HB.out hJ HL.out (KeysAt.later HM1.out HBL.out) (HM2.out.trans (Kept.of_below HBL.out HM1.out.2.1)) ((HBL.out.block K KLT).trans HM3.out) hst
      | some b =>
        go_wp2_with fail
        have HM1 := HK3
        have HM2 := HQ3
        have HM3 := HKK
        have KLT := hKlt3
        clear e1 e2 e3 x2 x3 hmm q46 q47
        have hstr3 : StrsAt w3 a3 (addC s.C code) := (mapP_of HM1.out HM3.out).2.2
        have hil : idx s.C code < (addC s.C code).length := (idx_addC_self s.C code).2
        obtain ⟨g, off, rfl, hgl, cc⟩ := hstr3 (idx s.C code) hil
        have hgc : gs (addC s.C code) (idx s.C code) = code := by
          have := gs_idx (C := addC s.C code) (c := code) (by rw [(idx_addC_self s.C code).1]; exact hil)
          rw [(idx_addC_self s.C code).1] at this
          exact this
        replace cc : w3.cell? ⟨g, off + idx s.C code, none⟩ = some (.string code) := cc.trans (by rw [hgc])
        obtain ⟨es, clk, hbb, he3⟩ := map_block (show MapIs w3 R (some b) (oKV s.O) from (mapP_of HM1.out HM3.out).2.1)
        have hblt : b < w3.heap.size := (Array.getElem?_eq_some_iff.1 hbb).1
        have hKb : K ≠ b := by
          intro e
          rw [← e, HM3.out] at hbb
          cases hbb
        have hgb : g ≠ b := by
          intro e
          have := cc
          rw [World.cell?, e, hbb] at this
          cases this
        have HE3 : Hid _ := he3
        have i0 : (0 : Int) ≤ (idx s.C code : Int) := by omega
        have hw1 : IntKind.i64.wrap (idx s.C code : Int) = (idx s.C code : Int) := by rw [IntKind.wrap_i64]; omega
        have i1 : (idx s.C code : Int) < ((addC s.C code).length : Int) := by omega
        obtain ⟨N, hN⟩ : ∃ N, N = w3.heap.size := ⟨_, rfl⟩
        have hKN : K < N := by rw [hN]; exact KLT
        have hgN : g < N := by rw [hN]; exact hgl
        have hbN : b < N := by rw [hN]; exact hblt
        have hlx : N ≤ w3.heap.size := by omega
        have HBB : Hid (w3.heap[b]? = some (.map es clk)) := hbb
        have HBL : Hid (Below w3.heap.size w3 w3) := Below.refl _ _
        have hS : w3.cell? ⟨K, 3, none⟩ = some (.map (some b)) ∧ w3.cell? ⟨K, 1, none⟩ = some (.slice (some ⟨g, off, none⟩) (addC s.C code).length cap3) ∧ w3.cell? ⟨g, off + idx s.C code, none⟩ = some (.string code) := ⟨by simp [World.cell?, HM3.out], by simp [World.cell?, HM3.out], cc⟩
        clear hstr3 hgc cc hbb he3 hgl hblt hN
        go_region_held3 (fun w' => w'.cell? ⟨K, 3, none⟩ = some (.map (some b)) ∧ w'.cell? ⟨K, 1, none⟩ = some (.slice (some ⟨g, off, none⟩) (addC s.C code).length cap3) ∧ w'.cell? ⟨g, off + idx s.C code, none⟩ = some (.string code))
          (first | exact hS | exact hS2)
          (first | (go_at_call 30; refine (clone30 _ _ (by omega)).mono ?_; rintro e wx ⟨rfl, hbx⟩; have hS := (⟨(hbx.cell (p := ⟨K, 3, none⟩) (Nat.lt_of_lt_of_le hKN hlx)).trans hS.1, (hbx.cell (p := ⟨K, 1, none⟩) (Nat.lt_of_lt_of_le hKN hlx)).trans hS.2.1, (hbx.cell (p := ⟨g, off + idx s.C code, none⟩) (Nat.lt_of_lt_of_le hgN hlx)).trans hS.2.2⟩ : wx.cell? ⟨K, 3, none⟩ = some (.map (some b)) ∧ wx.cell? ⟨K, 1, none⟩ = some (.slice (some ⟨g, off, none⟩) (addC s.C code).length cap3) ∧ wx.cell? ⟨g, off + idx s.C code, none⟩ = some (.string code)); have HBB : Hid (wx.heap[b]? = some (.map es clk)) := (hbx.block b (Nat.lt_of_lt_of_le hbN hlx)).trans HBB.out; have HBL : Hid (Below w3.heap.size w3 wx) := (by first | exact beg_step HBL.out hbx | exact beg_step2 HBL.out hbx); have hlx : N ≤ wx.heap.size := Nat.le_trans hlx hbx.size; obtain ⟨wy, hrun, hst⟩ := store_new (w := wx) HBB.out HE3.out Try.underlying47 (.agg #[.int .i64 line, .string code]) (check57 false j n wx) (by obtain ⟨i, hi⟩ := find57 j n wx es.toList HE3.out; rw [HLO.out] at hi; exact hi); have hS2 := (⟨(World.cell?_of_block (a := ⟨K, 3, none⟩) (hst.block K hKb)).trans hS.1, (World.cell?_of_block (a := ⟨K, 1, none⟩) (hst.block K hKb)).trans hS.2.1, (World.cell?_of_block (a := ⟨g, off + idx s.C code, none⟩) (hst.block g hgb)).trans hS.2.2⟩ : wy.cell? ⟨K, 3, none⟩ = some (.map (some b)) ∧ wy.cell? ⟨K, 1, none⟩ = some (.slice (some ⟨g, off, none⟩) (addC s.C code).length cap3) ∧ wy.cell? ⟨g, off + idx s.C code, none⟩ = some (.string code)); clear hbx))
        go_wp2
        go_ret3
        exact beg_putO HB.out hJ HL.out (KeysAt.later HM1.out HBL.out) (HM2.out.trans (Kept.of_below HBL.out HM1.out.2.1)) ((HBL.out.block K KLT).trans HM3.out) hst
  · cases hl : lookK s.P (keyFor s.J j n : Nat) with
    | some v =>
      rw [hl] at hlk
      simp only [Option.getD_some, Option.isSome_some] at hlk
      obtain ⟨l, c, e1, e2, e3, e4, e5, e6⟩ := HB.out.packed hpk hl
      have h16 : v / 65536 = l := by omega
      have hand := mask16 e2 e3 e4 e6
      have v0 : 0 ≤ v := by omega
      have v1 : v < 18446744073709551616 := by omega
      have i1 : (idx s.C c : Int) < (s.C.length : Int) := by omega
      have i0 : (0 : Int) ≤ (idx s.C c : Int) := by omega
      obtain ⟨b, off, rfl, hbl, cc⟩ := hstr _ e5
      rw [gs_idx e5] at cc
      have HL : Hid _ := e1
      clear e1 e2 hl hlo c3 c4 f4 hstr
      go_wp2
      go_quiet (fail)
      go_wp2
      go_ret3
      exact beg_seen HB.out hJ HK1.out (HQ1.out.drewN _) HL.out rfl
    | none =>
      rw [hl] at hlk
      simp only [Option.getD_none, Option.isSome_none] at hlk
      have HN : Hid (packs s.J j n = true → lookK s.P (keyFor s.J j n : Nat) = none) := fun _ => hl
      cases hlo2 : lookK s.O (j, n) with
      | some v =>
        obtain ⟨l, c⟩ := v
        rw [hlo2] at hlo
        simp only [Option.getD_some, Option.isSome_some] at hlo
        have HL : Hid _ := HB.out.other hlo2
        have HKW : Hid _ := HK1.out.later ((Below.refl _ w1).alloc (Nat.le_refl _) (.cells #[.int .i64 l, .string c] 55))
        have HQW : Hid _ := HQ1.out.trans (Kept.of_below ((Below.refl _ w1).alloc (Nat.le_refl _) (.cells #[.int .i64 l, .string c] 55)) HK1.out.2.1)
        clear hlo2
        go_wp2
        go_quiet (fail)
        go_wp2
        go_ret3
        exact beg_seen HB.out hJ HKW.out (HQW.out.drewN _) HL.out rfl
      | none =>
        rw [hlo2] at hlo
        simp only [Option.getD_none, Option.isSome_none] at hlo
        have HL : Hid _ := HB.out.new HN.out hlo2
        have HLO : Hid _ := hlo2
        have HNL : Hid _ := hl
        clear hlo2 hl
        go_wp2_with fail
        have hKW := (HK1.out.setN (wrap64 (s.n + 1))).1.later ((Below.refl _ _).alloc (Nat.le_refl _) (.cells #[.int .i64 0, .string ByteArray.empty] 55))
        have HQW : Hid (Kept R w ((w1.setCell ⟨K, 4, none⟩ (.int .i64 (wrap64 (s.n + 1)))).alloc (.cells #[.int .i64 0, .string ByteArray.empty] 55))) := HQ1.out.trans ((HK1.out.setN (wrap64 (s.n + 1))).2.trans (Kept.of_below ((Below.refl _ _).alloc (Nat.le_refl _) _) (HK1.out.setN (wrap64 (s.n + 1))).1.2.1))
        refine (code29 _ K R _ code hKW hcode (by simp; omega)).mono ?_
        rintro e w3 ⟨rfl, hK3, hq3⟩
        have HK3 : Hid (KeysAt w3 K R (midSt s j n code (wrap64 (s.n + 1)))) := hK3
        have HQ3 : Hid (Kept R w w3) := HQW.out.trans hq3
        obtain ⟨g1, g2, jm3, a3, cap3, pm3, om3, hK3', _⟩ := hK3
        replace hK3' : w3.heap[K]? = some (.cells #[.map jm3, .slice a3 (addC s.C code).length cap3, .map pm3, .map om3, .int .i64 (wrap64 (s.n + 1))] 49 (0, 0)) := hK3'
        have e1 : w3.cell? ⟨K, 1, none⟩ = some (.slice a3 (addC s.C code).length cap3) := by simp [World.cell?, hK3']
        have e2 : w3.cell? ⟨K, 2, none⟩ = some (.map pm3) := by simp [World.cell?, hK3']
        have e3 : w3.cell? ⟨K, 3, none⟩ = some (.map om3) := by simp [World.cell?, hK3']
        have x2 : w3.frozen? ⟨K, 2, none⟩ = false := by simp [World.frozen?, hK3']
        have x3 : w3.frozen? ⟨K, 3, none⟩ = false := by simp [World.frozen?, hK3']
        have hKlt3 : K < w3.heap.size := (Array.getElem?_eq_some_iff.1 hK3').1
        have HKK : Hid _ := hK3'
        have hic : idx s.C code + 1 < 65536 := by have := idx_le s.C code; omega
        have hmm := @run_makeMap Try.prog
        have q46 := fun (W : World) (r : Option Nat) => run_eql_map_nil (P := Try.prog) W 46 33 33 r Try.underlying46
        have q47 := fun (W : World) (r : Option Nat) => run_eql_map_nil (P := Try.prog) W 47 57 55 r Try.underlying47
        have hdc : decide ((idx s.C code : Int) + 1 < 65536) = true := decide_eq_true (by omega)
        clear g1 g2 hK3' hKW hq3 c1 c2 c3 c4 f4 hlk hlo hstr hKlt
        by_cases h48 : line < 281474976710656
        · have hd48 : decide (line < 281474976710656) = true := decide_eq_true h48
          cases pm3 with
          | none =>
            obtain ⟨m1, m2, m3⟩ := HK3.out.mkP HKK.out
            rw [World.setCell_alloc_past _ _ _ _ hKlt3] at m1 m2 m3
            obtain ⟨es, clk, hb3, he3⟩ := map_block (show MapIs ((w3.setCell ⟨K, 2, none⟩ (.map (some w3.heap.size))).alloc (.map #[] 0)) R (some w3.heap.size) (pKV s.P) from (mapP_of m1 m3).1)
            have HM1 : Hid _ := m1
            have HM2 : Hid _ := HQ3.out.trans m2
            have HM3 : Hid (_ = some (Obj.cells #[.map _, .slice a3 (addC s.C code).length cap3, .map _, .map _, .int .i64 (wrap64 (s.n + 1))] 49 (0, 0))) := m3
            have HB3 : Hid _ := hb3
            have HE3 : Hid _ := he3
            clear m1 m2 m3 hb3 he3
            go_wp2_with (first | (at_mapUpdate; refine wpList_store_new rfl _ _ _ _ rfl w3.heap.size (pKV s.P) _ _ rfl rfl rfl (store_new HB3.out HE3.out Try.underlying46 _ (check33 _ _ _) (by obtain ⟨i, hi⟩ := find33 (keyFor s.J j n : Nat) ((w3.setCell ⟨K, 2, none⟩ (.map (some w3.heap.size))).alloc (.map #[] 0)) es.toList HE3.out; rw [HNL.out] at hi; exact hi)) ?_; intro w5 hst))
            go_ret3
            exact beg_putP HB.out hJ hC HL.out hpk h0 h48 HM1.out HM2.out HM3.out hst (word16 h0 h48 hic)
          | some b =>
            obtain ⟨es, clk, hb3, he3⟩ := map_block (show MapIs w3 R (some b) (pKV s.P) from (mapP_of HK3.out HKK.out).1)
            have HB3 : Hid _ := hb3
            have HE3 : Hid _ := he3
            clear hb3 he3
            go_wp2_with (first | (at_mapUpdate; refine wpList_store_new rfl _ _ _ _ rfl b (pKV s.P) _ _ rfl rfl rfl (store_new HB3.out HE3.out Try.underlying46 _ (check33 _ _ _) (by obtain ⟨i, hi⟩ := find33 (keyFor s.J j n : Nat) w3 es.toList HE3.out; rw [HNL.out] at hi; exact hi)) ?_; intro w5 hst))
            go_ret3
            exact beg_putP HB.out hJ hC HL.out hpk h0 h48 HK3.out HQ3.out HKK.out hst (word16 h0 h48 hic)
        · have hd48 : decide (line < 281474976710656) = false := decide_eq_false h48
          cases om3 with
          | none =>
            obtain ⟨m1, m2, m3⟩ := HK3.out.mkO HKK.out
            rw [World.setCell_alloc_past _ _ _ _ hKlt3] at m1 m2 m3
            have HM1 : Hid _ := m1
            have HM2 : Hid _ := HQ3.out.trans m2
            have HM3 : Hid (_ = some (Obj.cells #[.map _, .slice a3 (addC s.C code).length cap3, .map _, .map _, .int .i64 (wrap64 (s.n + 1))] 49 (0, 0))) := m3
            clear m1 m2 m3
            go_wp2_with fail
            clear e1 e2 e3 x2 x3 hmm q46 q47
            generalize hb9 : w3.heap.size = b9 at HM1 HM2 HM3 ⊢
            generalize (w3.setCell ⟨K, 3, none⟩ (.map (some b9))).alloc (.map #[] 0) = wm at HM1 HM2 HM3 ⊢
            have KLT : K < wm.heap.size := (Array.getElem?_eq_some_iff.1 HM3.out).1
            have hstr3 : StrsAt wm a3 (addC s.C code) := (mapP_of HM1.out HM3.out).2.2
            have hil : idx s.C code < (addC s.C code).length := (idx_addC_self s.C code).2
            obtain ⟨g, off, rfl, hgl, cc⟩ := hstr3 (idx s.C code) hil
            have hgc : gs (addC s.C code) (idx s.C code) = code := by
              have := gs_idx (C := addC s.C code) (c := code) (by rw [(idx_addC_self s.C code).1]; exact hil)
              rw [(idx_addC_self s.C code).1] at this
              exact this
            replace cc : wm.cell? ⟨g, off + idx s.C code, none⟩ = some (.string code) := cc.trans (by rw [hgc])
            obtain ⟨es, clk, hbb, he3⟩ := map_block (show MapIs wm R (some b9) (oKV s.O) from (mapP_of HM1.out HM3.out).2.1)
            have hblt : b9 < wm.heap.size := (Array.getElem?_eq_some_iff.1 hbb).1
            have hKb : K ≠ b9 := by
              intro e
              rw [← e, HM3.out] at hbb
              cases hbb
            have hgb : g ≠ b9 := by
              intro e
              have := cc
              rw [World.cell?, e, hbb] at this
              cases this
            have HE3 : Hid _ := he3
            have i0 : (0 : Int) ≤ (idx s.C code : Int) := by omega
            have hw1 : IntKind.i64.wrap (idx s.C code : Int) = (idx s.C code : Int) := by rw [IntKind.wrap_i64]; omega
            have i1 : (idx s.C code : Int) < ((addC s.C code).length : Int) := by omega
            obtain ⟨N, hN⟩ : ∃ N, N = wm.heap.size := ⟨_, rfl⟩
            have hKN : K < N := by rw [hN]; exact KLT
            have hgN : g < N := by rw [hN]; exact hgl
            have hbN : b9 < N := by rw [hN]; exact hblt
            have hlx : N ≤ wm.heap.size := by omega
            have HBB : Hid (wm.heap[b9]? = some (.map es clk)) := hbb
            have HBL : Hid (Below wm.heap.size wm wm) := Below.refl _ _
            have hS : wm.cell? ⟨K, 3, none⟩ = some (.map (some b9)) ∧ wm.cell? ⟨K, 1, none⟩ = some (.slice (some ⟨g, off, none⟩) (addC s.C code).length cap3) ∧ wm.cell? ⟨g, off + idx s.C code, none⟩ = some (.string code) := ⟨by simp [World.cell?, HM3.out], by simp [World.cell?, HM3.out], cc⟩
            clear hstr3 hgc cc hbb he3 hgl hblt hN
            go_region_held3 (fun w' => w'.cell? ⟨K, 3, none⟩ = some (.map (some b9)) ∧ w'.cell? ⟨K, 1, none⟩ = some (.slice (some ⟨g, off, none⟩) (addC s.C code).length cap3) ∧ w'.cell? ⟨g, off + idx s.C code, none⟩ = some (.string code))
              (first | exact hS | exact hS2)
              (first | (go_at_call 30; refine (clone30 _ _ (by omega)).mono ?_; rintro e wx ⟨rfl, hbx⟩; have hS := (⟨(hbx.cell (p := ⟨K, 3, none⟩) (Nat.lt_of_lt_of_le hKN hlx)).trans hS.1, (hbx.cell (p := ⟨K, 1, none⟩) (Nat.lt_of_lt_of_le hKN hlx)).trans hS.2.1, (hbx.cell (p := ⟨g, off + idx s.C code, none⟩) (Nat.lt_of_lt_of_le hgN hlx)).trans hS.2.2⟩ : wx.cell? ⟨K, 3, none⟩ = some (.map (some b9)) ∧ wx.cell? ⟨K, 1, none⟩ = some (.slice (some ⟨g, off, none⟩) (addC s.C code).length cap3) ∧ wx.cell? ⟨g, off + idx s.C code, none⟩ = some (.string code)); have HBB : Hid (wx.heap[b9]? = some (.map es clk)) := (hbx.block b9 (Nat.lt_of_lt_of_le hbN hlx)).trans HBB.out; have HBL : Hid (Below wm.heap.size wm wx) := (by first | exact beg_step HBL.out hbx | exact beg_step2 HBL.out hbx); have hlx : N ≤ wx.heap.size := Nat.le_trans hlx hbx.size; obtain ⟨wy, hrun, hst⟩ := store_new (w := wx) HBB.out HE3.out Try.underlying47 (.agg #[.int .i64 line, .string code]) (check57 false j n wx) (by obtain ⟨i, hi⟩ := find57 j n wx es.toList HE3.out; rw [HLO.out] at hi; exact hi); have hS2 := (⟨(World.cell?_of_block (a := ⟨K, 3, none⟩) (hst.block K hKb)).trans hS.1, (World.cell?_of_block (a := ⟨K, 1, none⟩) (hst.block K hKb)).trans hS.2.1, (World.cell?_of_block (a := ⟨g, off + idx s.C code, none⟩) (hst.block g hgb)).trans hS.2.2⟩ : wy.cell? ⟨K, 3, none⟩ = some (.map (some b9)) ∧ wy.cell? ⟨K, 1, none⟩ = some (.slice (some ⟨g, off, none⟩) (addC s.C code).length cap3) ∧ wy.cell? ⟨g, off + idx s.C code, none⟩ = some (.string code)); clear hbx))
            go_wp2
            go_ret3
            exact beg_putO HB.out hJ HL.out (KeysAt.later HM1.out HBL.out) (HM2.out.trans (Kept.of_below HBL.out HM1.out.2.1)) ((HBL.out.block K KLT).trans HM3.out) hst
          | some b =>
            go_wp2_with fail
            have HM1 := HK3
            have HM2 := HQ3
            have HM3 := HKK
            have KLT := hKlt3
            clear e1 e2 e3 x2 x3 hmm q46 q47
            have hstr3 : StrsAt w3 a3 (addC s.C code) := (mapP_of HM1.out HM3.out).2.2
            have hil : idx s.C code < (addC s.C code).length := (idx_addC_self s.C code).2
            obtain ⟨g, off, rfl, hgl, cc⟩ := hstr3 (idx s.C code) hil
            have hgc : gs (addC s.C code) (idx s.C code) = code := by
              have := gs_idx (C := addC s.C code) (c := code) (by rw [(idx_addC_self s.C code).1]; exact hil)
              rw [(idx_addC_self s.C code).1] at this
              exact this
            replace cc : w3.cell? ⟨g, off + idx s.C code, none⟩ = some (.string code) := cc.trans (by rw [hgc])
            obtain ⟨es, clk, hbb, he3⟩ := map_block (show MapIs w3 R (some b) (oKV s.O) from (mapP_of HM1.out HM3.out).2.1)
            have hblt : b < w3.heap.size := (Array.getElem?_eq_some_iff.1 hbb).1
            have hKb : K ≠ b := by
              intro e
              rw [← e, HM3.out] at hbb
              cases hbb
            have hgb : g ≠ b := by
              intro e
              have := cc
              rw [World.cell?, e, hbb] at this
              cases this
            have HE3 : Hid _ := he3
            have i0 : (0 : Int) ≤ (idx s.C code : Int) := by omega
            have hw1 : IntKind.i64.wrap (idx s.C code : Int) = (idx s.C code : Int) := by rw [IntKind.wrap_i64]; omega
            have i1 : (idx s.C code : Int) < ((addC s.C code).length : Int) := by omega
            obtain ⟨N, hN⟩ : ∃ N, N = w3.heap.size := ⟨_, rfl⟩
            have hKN : K < N := by rw [hN]; exact KLT
            have hgN : g < N := by rw [hN]; exact hgl
            have hbN : b < N := by rw [hN]; exact hblt
            have hlx : N ≤ w3.heap.size := by omega
            have HBB : Hid (w3.heap[b]? = some (.map es clk)) := hbb
            have HBL : Hid (Below w3.heap.size w3 w3) := Below.refl _ _
            have hS : w3.cell? ⟨K, 3, none⟩ = some (.map (some b)) ∧ w3.cell? ⟨K, 1, none⟩ = some (.slice (some ⟨g, off, none⟩) (addC s.C code).length cap3) ∧ w3.cell? ⟨g, off + idx s.C code, none⟩ = some (.string code) := ⟨by simp [World.cell?, HM3.out], by simp [World.cell?, HM3.out], cc⟩
            clear hstr3 hgc cc hbb he3 hgl hblt hN
            go_region_held3 (fun w' => w'.cell? ⟨K, 3, none⟩ = some (.map (some b)) ∧ w'.cell? ⟨K, 1, none⟩ = some (.slice (some ⟨g, off, none⟩) (addC s.C code).length cap3) ∧ w'.cell? ⟨g, off + idx s.C code, none⟩ = some (.string code))
              (first | exact hS | exact hS2)
              (first | (go_at_call 30; refine (clone30 _ _ (by omega)).mono ?_; rintro e wx ⟨rfl, hbx⟩; have hS := (⟨(hbx.cell (p := ⟨K, 3, none⟩) (Nat.lt_of_lt_of_le hKN hlx)).trans hS.1, (hbx.cell (p := ⟨K, 1, none⟩) (Nat.lt_of_lt_of_le hKN hlx)).trans hS.2.1, (hbx.cell (p := ⟨g, off + idx s.C code, none⟩) (Nat.lt_of_lt_of_le hgN hlx)).trans hS.2.2⟩ : wx.cell? ⟨K, 3, none⟩ = some (.map (some b)) ∧ wx.cell? ⟨K, 1, none⟩ = some (.slice (some ⟨g, off, none⟩) (addC s.C code).length cap3) ∧ wx.cell? ⟨g, off + idx s.C code, none⟩ = some (.string code)); have HBB : Hid (wx.heap[b]? = some (.map es clk)) := (hbx.block b (Nat.lt_of_lt_of_le hbN hlx)).trans HBB.out; have HBL : Hid (Below w3.heap.size w3 wx) := (by first | exact beg_step HBL.out hbx | exact beg_step2 HBL.out hbx); have hlx : N ≤ wx.heap.size := Nat.le_trans hlx hbx.size; obtain ⟨wy, hrun, hst⟩ := store_new (w := wx) HBB.out HE3.out Try.underlying47 (.agg #[.int .i64 line, .string code]) (check57 false j n wx) (by obtain ⟨i, hi⟩ := find57 j n wx es.toList HE3.out; rw [HLO.out] at hi; exact hi); have hS2 := (⟨(World.cell?_of_block (a := ⟨K, 3, none⟩) (hst.block K hKb)).trans hS.1, (World.cell?_of_block (a := ⟨K, 1, none⟩) (hst.block K hKb)).trans hS.2.1, (World.cell?_of_block (a := ⟨g, off + idx s.C code, none⟩) (hst.block g hgb)).trans hS.2.2⟩ : wy.cell? ⟨K, 3, none⟩ = some (.map (some b)) ∧ wy.cell? ⟨K, 1, none⟩ = some (.slice (some ⟨g, off, none⟩) (addC s.C code).length cap3) ∧ wy.cell? ⟨g, off + idx s.C code, none⟩ = some (.string code)); clear hbx))
            go_wp2
            go_ret3
            exact beg_putO HB.out hJ HL.out (KeysAt.later HM1.out HBL.out) (HM2.out.trans (Kept.of_below HBL.out HM1.out.2.1)) ((HBL.out.block K KLT).trans HM3.out) hst

end Go.Proofs.Qxb6000395a
