/-
  Seat b6000395a: FnBeginFirstBeginningWins: the walk.
-/
import Derived.Test.Qxb6000395aHist
namespace Go.Proofs.Qxb6000395a
open Go.RowKit
set_option linter.unusedVariables false
set_option linter.unusedSimpArgs false

/-- The k-th of a list of ints. -/
def gi (zs : List Int) (k : Nat) : Int := zs.getD k 0

theorem wf_range {z : Int} (h : (Lit.int .i64 z).wf = true) : -9223372036854775808 ≤ z ∧ z ≤ 9223372036854775807 := by
  have h1 : IntKind.i64.min = -9223372036854775808 := rfl
  have h2 : IntKind.i64.max = 9223372036854775807 := rfl
  simp only [Lit.wf, Bool.and_eq_true, decide_eq_true_eq] at h
  omega

theorem gi_range {zs : List Int} (h : ∀ z ∈ zs, (Lit.int .i64 z).wf = true) {k : Nat} (hk : k < zs.length) : -9223372036854775808 ≤ gi zs k ∧ gi zs k ≤ 9223372036854775807 := by
  refine wf_range (h _ ?_)
  unfold gi
  rw [List.getD, List.getElem?_eq_getElem hk, Option.getD_some]
  exact List.getElem_mem hk

theorem intsAt_below {w w' : World} {a : Option Addr} {zs : List Int} (h : IntsAt w a zs) (hb : Below w.heap.size w w') : IntsAt w' a zs := fun k hk => by
  obtain ⟨b, off, e, hlt, hc⟩ := h k hk
  exact ⟨b, off, e, Nat.lt_of_lt_of_le hlt hb.size, by rw [hb.cell (p := ⟨b, off + k, none⟩) hlt]; exact hc⟩

set_option maxRecDepth 100000 in
set_option maxHeartbeats 2000000 in
theorem lawF (a1 : Option Addr) (js : List ByteArray) (cap1 : Nat) (a2 : Option Addr) (ns : List ByteArray) (cap2 : Nat) (a3 : Option Addr) (ls : List Int) (cap3 : Nat) (a4 : Option Addr) (cs : List ByteArray) (cap4 : Nat) (w : World)
    (h1 : StrsAt w a1 js) (hl1 : js.length ≤ maxLen) (h2 : StrsAt w a2 ns) (hl2 : ns.length ≤ maxLen) (h3 : IntsAt w a3 ls) (hl3 : ls.length ≤ maxLen) (hz : ∀ z ∈ ls, (Lit.int .i64 z).wf = true) (h4 : StrsAt w a4 cs) (hl4 : cs.length ≤ maxLen) :
    Calls Try.prog 3 #[.slice a1 js.length cap1, .slice a2 ns.length cap2, .slice a3 ls.length cap3, .slice a4 cs.length cap4] w (TruePost w) := by
  have q1 := hl1
  have q2 := hl2
  have q3 := hl3
  have q4 := hl4
  unfold maxLen at q1 q2 q3 q4
  go_enter Try.func3, Try.ntmps3
  go_wp2_with fail
  refine (bytes9 a1 a2 a3 a4 js ns ls cs cap1 cap2 cap3 cap4 _ h1 hl1 h2 hl2 hl3 h4 hl4).mono ?_
  rintro e w' ⟨r, rfl, rfl, hr⟩
  cases r
  · go_wp2
    go_ret
    exact ⟨rfl, Below.refl _ _⟩
  · have HR1 : Hid (∀ j, j < js.length → (gs js j).size ≤ 1048576) := (hr rfl).1
    have HR2 : Hid (∀ j, j < ns.length → (gs ns j).size ≤ 1048576) := (hr rfl).2.1
    have HR4 : Hid (∀ j, j < cs.length → (gs cs j).size ≤ 1048576) := (hr rfl).2.2
    clear hr
    by_cases t1 : js.length ≤ 4096
    · by_cases t2 : ns.length ≤ 4096
      · by_cases t3 : ls.length ≤ 4096
        · by_cases t4 : cs.length ≤ 4096
          · have u1 : decide (4096 < (js.length : Int)) = false := decide_eq_false (by omega)
            have u2 : decide (4096 < (ns.length : Int)) = false := decide_eq_false (by omega)
            have u3 : decide (4096 < (ls.length : Int)) = false := decide_eq_false (by omega)
            have u4 : decide (4096 < (cs.length : Int)) = false := decide_eq_false (by omega)
            go_wp2_with fail
            refine (strBytes a1 js cap1 _ h1 hl1).mono ?_
            rintro e w' ⟨⟨x, rfl⟩, rfl⟩
            go_wp2_with fail
            refine (strBytes a2 ns cap2 _ h2 hl2).mono ?_
            rintro e w' ⟨⟨y, rfl⟩, rfl⟩
            go_wp2_with fail
            refine (strBytes a4 cs cap4 _ h4 hl4).mono ?_
            rintro e w' ⟨⟨z, rfl⟩, rfl⟩
            by_cases hx : 1048576 < wrap64 (wrap64 (wrap64 (x + y) + 8 * (ls.length : Int)) + z)
            · have hdx : decide (1048576 < wrap64 (wrap64 (wrap64 (x + y) + 8 * (ls.length : Int)) + z)) = true := decide_eq_true hx
              clear hx
              go_wp2
              go_ret
              exact ⟨rfl, Below.refl _ _⟩
            · have hdx : decide (1048576 < wrap64 (wrap64 (wrap64 (x + y) + 8 * (ls.length : Int)) + z)) = false := decide_eq_false hx
              clear hx
              go_wp2_with fail
              refine (min11 js.length ns.length _).mono ?_
              rintro e w' ⟨rfl, rfl⟩
              go_wp2_with fail
              refine (min11 ls.length cs.length _).mono ?_
              rintro e w' ⟨rfl, rfl⟩
              go_wp2_with fail
              refine (min11 (min js.length ns.length) (min ls.length cs.length) _).mono ?_
              rintro e w' ⟨rfl, rfl⟩
              obtain ⟨n, hn, n1, n2, n3, n4⟩ : ∃ n, min (min js.length ns.length) (min ls.length cs.length) = n ∧ n ≤ js.length ∧ n ≤ ns.length ∧ n ≤ ls.length ∧ n ≤ cs.length := ⟨_, rfl, by omega, by omega, by omega, by omega⟩
              obtain ⟨na, hna⟩ : ∃ na, min js.length ns.length = na := ⟨_, rfl⟩
              obtain ⟨nb, hnb⟩ : ∃ nb, min ls.length cs.length = nb := ⟨_, rfl⟩
              rw [hna, hnb] at hn ⊢
              rw [hn]
              clear hn hna hnb
              have h3' : ∀ k, k < ls.length → ∃ b off, a3 = some ⟨b, off, none⟩ ∧ b < w.heap.size ∧ w.cell? ⟨b, off + k, none⟩ = some (.int .i64 (gi ls k)) := h3
              go_wp2
              go_loop [10] (fun i => ∃ k : Nat, k ≤ n ∧ i = .int .i64 k ∧ Hid (∀ q, q < k → 0 ≤ gi ls q)) (fun i => n - (intOf i).toNat)
              case atStart => exact ⟨0, Nat.zero_le _, rfl, fun q hq => by omega⟩
              case round =>
                obtain ⟨k, hk, rfl, hpos⟩ := hrel
                by_cases hlt : k < n
                · obtain ⟨b, off, rfl, _, hc⟩ := h3' k (by omega)
                  clear h3'
                  by_cases hge : 0 ≤ gi ls k
                  · have hd0 : decide (gi ls k < 0) = false := decide_eq_false (by omega)
                    go_wp2
                    go_round
                    case rel => exact ⟨k + 1, by omega, by go_num, fun q hq => by
                      rcases Nat.lt_or_ge q k with h9 | h9
                      · exact hpos.out q h9
                      · obtain rfl : q = k := by omega
                        exact hge⟩
                    case measure => simp [intOf]; omega
                  · go_wp2
                    go_ret
                    exact ⟨rfl, Below.refl _ _⟩
                · have HP : Hid (∀ q, q < n → 0 ≤ gi ls q ∧ gi ls q ≤ 9223372036854775807) := fun q hq => ⟨hpos.out q (by omega), (gi_range hz (by omega)).2⟩
                  clear hpos h3'
                  go_wp2_with fail
                  clear hlt hk
                  refine (clone12 a1 js cap1 _ h1 (by omega)).mono ?_
                  rintro e w1 ⟨b1, rfl, hb1, o1⟩
                  go_wp2_with fail
                  refine (clone12 a2 ns cap2 _ (h2.below hb1) (by omega)).mono ?_
                  rintro e w2 ⟨b2, rfl, hb2, o2⟩
                  go_wp2_with fail
                  have h3w : IntsAt w2 a3 ls := intsAt_below (intsAt_below h3 hb1) hb2
                  refine (clone13 a3 ls cap3 _ h3w (by omega)).mono ?_
                  rintro e w3 ⟨b3, rfl, hb3, o3⟩
                  go_wp2_with fail
                  refine (clone12 a4 cs cap4 _ (((h4.below hb1).below hb2).below hb3) (by omega)).mono ?_
                  rintro e wc ⟨b4, rfl, hb4, o4⟩
                  have hG1 : 0 < n → wc.rowIs w.heap.size 9 js.length (fun j => .string (gs js j)) ∧ b1 = some ⟨w.heap.size, 0, none⟩ ∧ w.heap.size < wc.heap.size := fun hp => by
                    obtain ⟨e, hr⟩ := o1 (by omega)
                    have r2 := hr.of_block (hb2.block _ hr.lt)
                    have r3 := r2.of_block (hb3.block _ r2.lt)
                    have r4 := r3.of_block (hb4.block _ r3.lt)
                    exact ⟨r4, e, r4.lt⟩
                  have hG2 : 0 < n → wc.rowIs w1.heap.size 9 ns.length (fun j => .string (gs ns j)) ∧ b2 = some ⟨w1.heap.size, 0, none⟩ ∧ w1.heap.size < wc.heap.size := fun hp => by
                    obtain ⟨e, hr⟩ := o2 (by omega)
                    have r3 := hr.of_block (hb3.block _ hr.lt)
                    have r4 := r3.of_block (hb4.block _ r3.lt)
                    exact ⟨r4, e, r4.lt⟩
                  have hG3 : 0 < n → wc.rowIs w2.heap.size 3 ls.length (fun j => .int .i64 (gi ls j)) ∧ b3 = some ⟨w2.heap.size, 0, none⟩ ∧ w2.heap.size < wc.heap.size := fun hp => by
                    obtain ⟨e, hr⟩ := o3 (by omega)
                    have r4 := hr.of_block (hb4.block _ hr.lt)
                    exact ⟨r4, e, r4.lt⟩
                  have hG4 : 0 < n → wc.rowIs w3.heap.size 9 cs.length (fun j => .string (gs cs j)) ∧ b4 = some ⟨w3.heap.size, 0, none⟩ ∧ w3.heap.size < wc.heap.size := fun hp => by
                    obtain ⟨e, hr⟩ := o4 (by omega)
                    exact ⟨hr, e, hr.lt⟩
                  have HBW : Hid (Below w.heap.size w wc) := hb1.trans ((hb2.mono hb1.size).trans ((hb3.mono (Nat.le_trans hb1.size hb2.size)).trans (hb4.mono (Nat.le_trans hb1.size (Nat.le_trans hb2.size hb3.size)))))
                  clear o1 o2 o3 o4 hb1 hb2 hb3 hb4 h1 h2 h3 h4 h3w hl1 hl2 hl3 hl4 hz
                  go_wp2_with fail
                  refine (new14 _).mono ?_
                  rintro e w' ⟨rfl, rfl⟩
                  have hst : Hid _ := relF_start wc
                  go_wp2
                  go_loopw [12] (fun i wr => ∃ k : Nat, k ≤ n ∧ i = .int .i64 k ∧ RelF wc wc.heap.size (fun q => q < wc.heap.size) k (hist js ns (gi ls) cs k) wr) (fun i _ => n - (intOf i).toNat)
                  case atStart => exact ⟨0, Nat.zero_le _, rfl, hst.out⟩
                  case round =>
                    obtain ⟨k, hk, rfl, hrel0⟩ := hrel
                    clear hst
                    by_cases hlt : k < n
                    · obtain ⟨r1, rfl, l1⟩ := hG1 (by omega)
                      obtain ⟨r2, rfl, l2⟩ := hG2 (by omega)
                      obtain ⟨r3, rfl, l3⟩ := hG3 (by omega)
                      obtain ⟨r4, rfl, l4⟩ := hG4 (by omega)
                      clear hG1 hG2 hG3 hG4
                      obtain ⟨p0, p63⟩ := HP.out k hlt
                      have s1 := HR1.out k (by omega)
                      have s2 := HR2.out k (by omega)
                      have s4 := HR4.out k (by omega)
                      have hk0 : (0 : Int) ≤ (k : Int) := by omega
                      have hk1 : (k : Int) < (js.length : Int) := by omega
                      have hk2 : (k : Int) < (ns.length : Int) := by omega
                      have hk3 : (k : Int) < (ls.length : Int) := by omega
                      have hk4 : (k : Int) < (cs.length : Int) := by omega
                      have c1 : wr.cell? ⟨w.heap.size, k, none⟩ = some (.string (gs js k)) := (hrel0.1.cell (p := ⟨w.heap.size, k, none⟩) l1).trans (r1.cell (by omega))
                      have c2 : wr.cell? ⟨w1.heap.size, k, none⟩ = some (.string (gs ns k)) := (hrel0.1.cell (p := ⟨w1.heap.size, k, none⟩) l2).trans (r2.cell (by omega))
                      have c3 : wr.cell? ⟨w2.heap.size, k, none⟩ = some (.int .i64 (gi ls k)) := (hrel0.1.cell (p := ⟨w2.heap.size, k, none⟩) l3).trans (r3.cell (by omega))
                      have c4 : wr.cell? ⟨w3.heap.size, k, none⟩ = some (.string (gs cs k)) := (hrel0.1.cell (p := ⟨w3.heap.size, k, none⟩) l4).trans (r4.cell (by omega))
                      have HRL : Hid _ := hrel0
                      clear hrel0
                      obtain ⟨hk9, s, hKs, hJs, hCs, hBs⟩ := id HRL.out
                      clear hk9
                      rcases first_or (js := js) (ns := ns) (key := (gs js k, gs ns k)) k with ⟨p, hpk, hpe, hpn⟩ | hno
                      · have hlook : lookK (hist js ns (gi ls) cs k) (gs js k, gs ns k) = some (gi ls p, gs cs p) := by
                          have := hist_first (f := gi ls) (cs := cs) hpe hpn (k - (p + 1))
                          rw [show p + 1 + (k - (p + 1)) = k from by omega] at this
                          exact this
                        have HSN : Hid _ := hist_seen hlook
                        have HLK : Hid _ := hlook
                        have HPE : Hid _ := hpe
                        have HPN : Hid _ := hpn
                        clear hlook hpe hpn
                        go_wp2
                        go_region_held3 (fun w' => w'.cell? ⟨w.heap.size, k, none⟩ = some (.string (gs js k)) ∧ w'.cell? ⟨w1.heap.size, k, none⟩ = some (.string (gs ns k)) ∧ w'.cell? ⟨w2.heap.size, k, none⟩ = some (.int .i64 (gi ls k)) ∧ w'.cell? ⟨w3.heap.size, k, none⟩ = some (.string (gs cs k)))
                          (first | exact ⟨c1, c2, c3, c4⟩ | exact ⟨d1, d2, d3, d4⟩)
                          (first | (go_at_call 15; refine (begin15_seen _ wc.heap.size (fun q => q < wc.heap.size) s (hist js ns (gi ls) cs k) (gs js k) (gs ns k) (gi ls k) (gs cs k) k (gi ls p) (gs cs p) hKs.drew hBs s1 s2 s4 hJs hCs (by omega) p0 p63 HLK.out).mono ?_; rintro e wx ⟨rfl, hkept, hsx⟩; have d1 := (hkept.cell (p := ⟨w.heap.size, k, none⟩) l1).trans c1; have d2 := (hkept.cell (p := ⟨w1.heap.size, k, none⟩) l2).trans c2; have d3 := (hkept.cell (p := ⟨w2.heap.size, k, none⟩) l3).trans c3; have d4 := (hkept.cell (p := ⟨w3.heap.size, k, none⟩) l4).trans c4))
                        have HRX : Hid (RelF wc wc.heap.size (fun q => q < wc.heap.size) (k + 1) (hist js ns (gi ls) cs (k + 1)) wx) := by
                          show RelF _ _ _ _ _ _
                          rw [HSN.out]
                          exact relF_next HRL.out hkept.of_drew hsx
                        clear HRL hsx hkept d1 d2 d3 d4 c1 c2 c3 c4 hKs hJs hCs hBs
                        go_wp2
                        go_loopw [16, 17] (fun pp qq wq => ∃ q : Nat, q ≤ p ∧ qq = .int .i64 q ∧ pp = .int .i64 (-1) ∧ RelF wc wc.heap.size (fun q => q < wc.heap.size) (k + 1) (hist js ns (gi ls) cs (k + 1)) wq) (fun _ qq _ => p - (intOf qq).toNat)
                        case atStart => exact ⟨0, Nat.zero_le _, rfl, rfl, HRX.out⟩
                        case round =>
                          obtain ⟨q, hqp, rfl, rfl, hrq0⟩ := hrel
                          clear HRX HLK HSN
                          have b0 : (0 : Int) ≤ (q : Int) := by omega
                          have b1 : (q : Int) < (js.length : Int) := by omega
                          have b2 : (q : Int) < (ns.length : Int) := by omega
                          have b3 : (q : Int) < (k : Int) := by omega
                          have c1 : wr.cell? ⟨w.heap.size, q, none⟩ = some (.string (gs js q)) := (hrq0.1.cell (p := ⟨w.heap.size, q, none⟩) l1).trans (r1.cell (by omega))
                          have c2 : wr.cell? ⟨w1.heap.size, q, none⟩ = some (.string (gs ns q)) := (hrq0.1.cell (p := ⟨w1.heap.size, q, none⟩) l2).trans (r2.cell (by omega))
                          have c3 : wr.cell? ⟨w.heap.size, k, none⟩ = some (.string (gs js k)) := (hrq0.1.cell (p := ⟨w.heap.size, k, none⟩) l1).trans (r1.cell (by omega))
                          have c4 : wr.cell? ⟨w1.heap.size, k, none⟩ = some (.string (gs ns k)) := (hrq0.1.cell (p := ⟨w1.heap.size, k, none⟩) l2).trans (r2.cell (by omega))
                          have HRQ : Hid _ := hrq0
                          by_cases hj : gs js q = gs js k
                          · have ht1 := str_eq.2 hj
                            by_cases hn : gs ns q = gs ns k
                            · obtain rfl : q = p := by
                                rcases Nat.lt_or_ge q p with h9 | h9
                                · exact absurd (by rw [hj, hn]) (HPN.out q h9)
                                · omega
                              have ht2 := str_eq.2 hn
                              have c5 : wr.cell? ⟨w2.heap.size, q, none⟩ = some (.int .i64 (gi ls q)) := (hrq0.1.cell (p := ⟨w2.heap.size, q, none⟩) l3).trans (r3.cell (by omega))
                              have c6 : wr.cell? ⟨w3.heap.size, q, none⟩ = some (.string (gs cs q)) := (hrq0.1.cell (p := ⟨w3.heap.size, q, none⟩) l4).trans (r4.cell (by omega))
                              have b4 : (q : Int) < (ls.length : Int) := by omega
                              have b5 : (q : Int) < (cs.length : Int) := by omega
                              have hd : decide ((q : Int) < 0) = false := decide_eq_false (by omega)
                              have ht3 : (gi ls q == gi ls q) = true := beq_iff_eq.2 rfl
                              have ht4 : ((gs cs q).toList == (gs cs q).toList) = true := str_eq.2 rfl
                              clear hj hn hrq0 HPE HPN
                              go_wp2
                              go_quiet (fail)
                              go_wp2
                              go_roundw
                              case rel => exact ⟨k + 1, by omega, by go_num, relF_drew HRQ.out _⟩
                              case measure => simp [intOf]; omega
                            · have hqp' : q < p := by
                                rcases Nat.lt_or_ge q p with h9 | h9
                                · exact h9
                                · obtain rfl : q = p := by omega
                                  exact absurd (congrArg Prod.snd HPE.out) hn
                              have ht2 := str_ne.2 hn
                              clear hj hn hrq0 HPE
                              go_wp2
                              go_quiet (fail)
                              go_wp2
                              go_roundw
                              case rel => exact ⟨q + 1, by omega, by go_num, rfl, relF_drew HRQ.out _⟩
                              case measure => simp [intOf]; omega
                          · have hqp' : q < p := by
                              rcases Nat.lt_or_ge q p with h9 | h9
                              · exact h9
                              · obtain rfl : q = p := by omega
                                exact absurd (congrArg Prod.fst HPE.out) hj
                            have ht1 := str_ne.2 hj
                            clear hj hrq0 HPE
                            go_wp2
                            go_quiet (fail)
                            go_wp2
                            go_roundw
                            case rel => exact ⟨q + 1, by omega, by go_num, rfl, relF_drew HRQ.out _⟩
                            case measure => simp [intOf]; omega
                      · have hlook : lookK (hist js ns (gi ls) cs k) (gs js k, gs ns k) = none := hist_none k hno
                        have HSN : Hid _ := hist_new hlook
                        have HLK : Hid _ := hlook
                        have HNO : Hid _ := hno
                        clear hlook hno
                        go_wp2
                        go_region_held3 (fun w' => w'.cell? ⟨w.heap.size, k, none⟩ = some (.string (gs js k)) ∧ w'.cell? ⟨w1.heap.size, k, none⟩ = some (.string (gs ns k)) ∧ w'.cell? ⟨w2.heap.size, k, none⟩ = some (.int .i64 (gi ls k)) ∧ w'.cell? ⟨w3.heap.size, k, none⟩ = some (.string (gs cs k)))
                          (first | exact ⟨c1, c2, c3, c4⟩ | exact ⟨d1, d2, d3, d4⟩)
                          (first | (go_at_call 15; refine (begin15_new _ wc.heap.size (fun q => q < wc.heap.size) s (hist js ns (gi ls) cs k) (gs js k) (gs ns k) (gi ls k) (gs cs k) k hKs.drew hBs s1 s2 s4 hJs hCs (by omega) p0 p63 HLK.out).mono ?_; rintro e wx ⟨rfl, hkept, hsx⟩; have d1 := (hkept.cell (p := ⟨w.heap.size, k, none⟩) l1).trans c1; have d2 := (hkept.cell (p := ⟨w1.heap.size, k, none⟩) l2).trans c2; have d3 := (hkept.cell (p := ⟨w2.heap.size, k, none⟩) l3).trans c3; have d4 := (hkept.cell (p := ⟨w3.heap.size, k, none⟩) l4).trans c4))
                        have HRX : Hid (RelF wc wc.heap.size (fun q => q < wc.heap.size) (k + 1) (hist js ns (gi ls) cs (k + 1)) wx) := by
                          show RelF _ _ _ _ _ _
                          rw [HSN.out]
                          exact relF_next HRL.out hkept.of_drew hsx
                        clear HRL hsx hkept d1 d2 d3 d4 c1 c2 c3 c4 hKs hJs hCs hBs
                        go_wp2
                        go_loopw [16, 17] (fun pp qq wq => ∃ q : Nat, q ≤ k ∧ qq = .int .i64 q ∧ pp = .int .i64 (-1) ∧ RelF wc wc.heap.size (fun q => q < wc.heap.size) (k + 1) (hist js ns (gi ls) cs (k + 1)) wq) (fun _ qq _ => k - (intOf qq).toNat)
                        case atStart => exact ⟨0, Nat.zero_le _, rfl, rfl, HRX.out⟩
                        case round =>
                          obtain ⟨q, hqk, rfl, rfl, hrq0⟩ := hrel
                          clear HRX HLK HSN
                          by_cases hqlt : q < k
                          · have b0 : (0 : Int) ≤ (q : Int) := by omega
                            have b1 : (q : Int) < (js.length : Int) := by omega
                            have b2 : (q : Int) < (ns.length : Int) := by omega
                            have c1 : wr.cell? ⟨w.heap.size, q, none⟩ = some (.string (gs js q)) := (hrq0.1.cell (p := ⟨w.heap.size, q, none⟩) l1).trans (r1.cell (by omega))
                            have c2 : wr.cell? ⟨w1.heap.size, q, none⟩ = some (.string (gs ns q)) := (hrq0.1.cell (p := ⟨w1.heap.size, q, none⟩) l2).trans (r2.cell (by omega))
                            have c3 : wr.cell? ⟨w.heap.size, k, none⟩ = some (.string (gs js k)) := (hrq0.1.cell (p := ⟨w.heap.size, k, none⟩) l1).trans (r1.cell (by omega))
                            have c4 : wr.cell? ⟨w1.heap.size, k, none⟩ = some (.string (gs ns k)) := (hrq0.1.cell (p := ⟨w1.heap.size, k, none⟩) l2).trans (r2.cell (by omega))
                            have HRQ : Hid _ := hrq0
                            by_cases hj : gs js q = gs js k
                            · have ht1 := str_eq.2 hj
                              have hn : gs ns q ≠ gs ns k := fun e => HNO.out q hqlt (by rw [hj, e])
                              have ht2 := str_ne.2 hn
                              clear hj hn hrq0
                              go_wp2
                              go_quiet (fail)
                              go_wp2
                              go_roundw
                              case rel => exact ⟨q + 1, by omega, by go_num, rfl, relF_drew HRQ.out _⟩
                              case measure => simp [intOf]; omega
                            · have ht1 := str_ne.2 hj
                              clear hj hrq0
                              go_wp2
                              go_quiet (fail)
                              go_wp2
                              go_roundw
                              case rel => exact ⟨q + 1, by omega, by go_num, rfl, relF_drew HRQ.out _⟩
                              case measure => simp [intOf]; omega
                          · have c5 : wr.cell? ⟨w2.heap.size, k, none⟩ = some (.int .i64 (gi ls k)) := (hrq0.1.cell (p := ⟨w2.heap.size, k, none⟩) l3).trans (r3.cell (by omega))
                            have c6 : wr.cell? ⟨w3.heap.size, k, none⟩ = some (.string (gs cs k)) := (hrq0.1.cell (p := ⟨w3.heap.size, k, none⟩) l4).trans (r4.cell (by omega))
                            have ht3 : (gi ls k == gi ls k) = true := beq_iff_eq.2 rfl
                            have ht4 : ((gs cs k).toList == (gs cs k).toList) = true := str_eq.2 rfl
                            have HRQ : Hid _ := hrq0
                            clear hrq0
                            go_wp2
                            go_roundw
                            case rel => exact ⟨k + 1, by omega, by go_num, HRQ.out⟩
                            case measure => simp [intOf]; omega
                    · go_wp2
                      go_ret
                      exact ⟨rfl, HBW.out.trans ((hrel0.1.below (fun q hq => hq)).mono HBW.out.size)⟩
          · go_wp2
            go_ret
            exact ⟨rfl, Below.refl _ _⟩
        · go_wp2
          go_ret
          exact ⟨rfl, Below.refl _ _⟩
      · go_wp2
        go_ret
        exact ⟨rfl, Below.refl _ _⟩
    · go_wp2
      go_ret
      exact ⟨rfl, Below.refl _ _⟩

end Go.Proofs.Qxb6000395a
