/-
  Seat b6000395a: FnPackRefusesExactlyAndSeparates: the walk.
-/
import Derived.Test.Qxb6000395aFiveParts
namespace Go.Proofs.Qxb6000395a
open Go.RowKit
set_option linter.unusedVariables false
set_option linter.unusedSimpArgs false

theorem info33 : (Try.prog.info? 33).map (fun i => (i.zero, i.size, i.bytes)) = some (some (.int .u64 0), 1, 8) := by kernel_rfl
theorem info4 : (Try.prog.info? 4).map (fun i => (i.zero, i.size, i.bytes)) = some (some (.bool false), 1, 1) := by kernel_rfl

theorem mem_gs {J : List ByteArray} {i : Nat} {c : ByteArray} (hi : i < J.length) (h : gs J i = c) : idx J c < J.length := by
  rw [idx_lt, ← h]
  simp only [gs, List.getD, List.getElem?_eq_getElem hi, Option.getD_some]
  exact List.getElem_mem hi

theorem packs_found {J : List ByteArray} {j n : ByteArray} (hi : idx J j < J.length) : packs J j n = digsB n := by
  unfold packs
  rw [decide_eq_true hi]
  simp

theorem packs_nodig {J : List ByteArray} {j n : ByteArray} (h : digsB n = false) : packs J j n = false := by
  unfold packs
  rw [h]
  rfl

theorem packs_room {J : List ByteArray} {j n : ByteArray} (h : digsB n = true) (hf : ¬ J.length = 1024) : packs J j n = true := by
  unfold packs
  rw [h, decide_eq_false hf]
  simp

theorem jst_found {js ns : List ByteArray} {k : Nat} (hi : idx (jst js ns k) (gs js k) < (jst js ns k).length) : jst js ns (k + 1) = jst js ns k := by
  show addJ _ _ _ = _
  unfold addJ
  split
  · exact addC_old hi
  · rfl

theorem jst_no {js ns : List ByteArray} {k : Nat} (h : packs (jst js ns k) (gs js k) (gs ns k) = false) : jst js ns (k + 1) = jst js ns k := by
  show addJ _ _ _ = _
  unfold addJ
  rw [h]
  rfl

theorem jst_new {js ns : List ByteArray} {k : Nat} (h : packs (jst js ns k) (gs js k) (gs ns k) = true) (hi : idx (jst js ns k) (gs js k) = (jst js ns k).length) : jst js ns (k + 1) = jst js ns k ++ [gs js k] := by
  show addJ _ _ _ = _
  unfold addJ
  rw [if_pos h]
  exact addC_new hi

set_option maxRecDepth 100000 in
set_option maxHeartbeats 2000000 in
theorem lawP0 (a a2 : Option Addr) (js ns : List ByteArray) (cap cap2 : Nat) (w : World) (h : StrsAt w a js) (hl : js.length ≤ maxLen) (h2 : StrsAt w a2 ns) (hl2 : ns.length ≤ maxLen) :
    Calls Try.prog 5 #[.slice a js.length cap, .slice a2 ns.length cap2] w (TruePost w) := by
  have hq := hl
  have hq2 := hl2
  unfold maxLen at hq hq2
  go_enter Try.func5, Try.ntmps5
  go_wp2_with fail
  refine (bytes17 a a2 js ns cap cap2 _ h hl h2 hl2).mono ?_
  rintro e w' ⟨r, rfl, rfl, hr⟩
  cases r
  · go_wp2
    go_ret
    exact ⟨rfl, Below.refl _ _⟩
  · have HR : Hid (∀ j, j < js.length → (gs js j).size ≤ 1048576) := (hr rfl).1
    have HR2 : Hid (∀ j, j < ns.length → (gs ns j).size ≤ 1048576) := (hr rfl).2
    clear hr
    by_cases h4 : js.length ≤ 4096
    · by_cases h5 : ns.length ≤ 4096
      · have hd1 : decide (4096 < (js.length : Int)) = false := decide_eq_false (by omega)
        have hd2 : decide (4096 < (ns.length : Int)) = false := decide_eq_false (by omega)
        go_wp2_with fail
        refine (strBytes a js cap _ h hl).mono ?_
        rintro e w' ⟨⟨x, rfl⟩, rfl⟩
        go_wp2_with fail
        refine (strBytes a2 ns cap2 _ h2 hl2).mono ?_
        rintro e w' ⟨⟨y, rfl⟩, rfl⟩
        by_cases hx : 1048576 < wrap64 (x + y)
        · go_wp2
          go_ret
          exact ⟨rfl, Below.refl _ _⟩
        · have hd3 : decide (1048576 < wrap64 (x + y)) = false := decide_eq_false hx
          go_wp2_with fail
          refine (clone12 a js cap _ h (by omega)).mono ?_
          rintro e w1 ⟨b1, rfl, hb1, hown1⟩
          go_wp2_with fail
          refine (clone12 a2 ns cap2 _ (h2.below hb1) (by omega)).mono ?_
          rintro e wc ⟨b2, rfl, hb2, hown2⟩
          go_wp2_with fail
          refine (min11 js.length ns.length _).mono ?_
          rintro e w' ⟨rfl, rfl⟩
          obtain ⟨n, hn, hn1, hn2⟩ : ∃ n, min js.length ns.length = n ∧ n ≤ js.length ∧ n ≤ ns.length := ⟨_, rfl, by omega, by omega⟩
          rw [hn]
          clear hn
          have hG1 : 0 < n → wc.rowIs w.heap.size 9 js.length (fun j => .string (gs js j)) ∧ b1 = some ⟨w.heap.size, 0, none⟩ ∧ w.heap.size < wc.heap.size := fun hp => by
            obtain ⟨e, hr⟩ := hown1 (by omega)
            exact ⟨hr.of_block (hb2.block _ hr.lt), e, Nat.lt_of_lt_of_le hr.lt hb2.size⟩
          have hG2 : 0 < n → wc.rowIs w1.heap.size 9 ns.length (fun j => .string (gs ns j)) ∧ b2 = some ⟨w1.heap.size, 0, none⟩ ∧ w1.heap.size < wc.heap.size := fun hp => by
            obtain ⟨e, hr⟩ := hown2 (by omega)
            exact ⟨hr, e, hr.lt⟩
          have HBW : Hid (Below w.heap.size w wc) := hb1.trans (hb2.mono hb1.size)
          clear hown1 hown2 hb1 hb2 h h2 hl hl2
          go_wp2_with fail
          refine (new14 _).mono ?_
          rintro e w' ⟨rfl, rfl⟩
          obtain ⟨M, hM, hmk16⟩ := make16
          have hmk1 := run_make_row' (P := Try.prog) 35 33 (.int .u64 0) 8 Try.underlying35 info33 rfl .i64 .i64 n (by omega) (by omega)
          have hmk2 := run_make_row' (P := Try.prog) 36 4 (.bool false) 1 Try.underlying36 info4 rfl .i64 .i64 n (by omega) (by omega)
          have hst : Hid _ := relP_start js ns wc n M hM
          clear hM
          go_wp2
          rw [show wc.heap.size + 1 + 1 + 1 = wc.heap.size + 3 from rfl, show wc.heap.size + 1 + 1 = wc.heap.size + 2 from rfl]
          go_loopw [7, 10] (fun m i wr => ∃ k g cap', k ≤ n ∧ i = .int .i64 (k : Nat) ∧ m = .slice (some ⟨g, 0, none⟩) (jst js ns k).length cap' ∧ RelP js ns wc n k g cap' (jst js ns k) wr) (fun _ i _ => n - (intOf i).toNat)
          case atStart => exact ⟨0, wc.heap.size + 1, 16, Nat.zero_le _, rfl, rfl, hst.out⟩
          case round =>
            obtain ⟨k, g, cap', hk, rfl, rfl, hrel0⟩ := hrel
            clear hst hmk16 hmk1 hmk2
            have hJ := jst_1024 js ns k
            by_cases hlt : k < n
            · obtain ⟨r1, rfl, l1⟩ := hG1 (by omega)
              obtain ⟨r2, rfl, l2⟩ := hG2 (by omega)
              have c1 : wr.cell? ⟨w.heap.size, k, none⟩ = some (.string (gs js k)) := (hrel0.2.1.cell (p := ⟨w.heap.size, k, none⟩) l1).trans (r1.cell (by omega))
              have c2 : wr.cell? ⟨w1.heap.size, k, none⟩ = some (.string (gs ns k)) := (hrel0.2.1.cell (p := ⟨w1.heap.size, k, none⟩) l2).trans (r2.cell (by omega))
              have s1 := HR.out k (by omega)
              have s2 := HR2.out k (by omega)
              have hk0 : (0 : Int) ≤ (k : Int) := by omega
              have hk1 : (k : Int) < (js.length : Int) := by omega
              have hk2 : (k : Int) < (ns.length : Int) := by omega
              have HRL : Hid (RelP js ns wc n k g cap' (jst js ns k) wr) := hrel0
              clear hG1 hG2 hrel0
              go_wp2
              go_region_held3 (fun w' => w'.cell? ⟨w.heap.size, k, none⟩ = some (.string (gs js k)) ∧ w'.cell? ⟨w1.heap.size, k, none⟩ = some (.string (gs ns k)))
                (first | exact ⟨c1, c2⟩ | exact ⟨c3, c4⟩)
                (first | (go_at_call 18; refine (pack18 _ wc.heap.size (Rp wc.heap.size g) { St.fresh with J := jst js ns k } (gs js k) (gs ns k) HRL.out.1.drew s1 s2 hJ).mono ?_; rintro e w2 ⟨rfl, hp2, hkept⟩; have c3 := (hkept.cell (p := ⟨w.heap.size, k, none⟩) (.inl l1)).trans c1; have c4 := (hkept.cell (p := ⟨w1.heap.size, k, none⟩) (.inl l2)).trans c2))
              have HMD : Hid (RelP js ns wc n k g cap' (jst js ns (k + 1)) w2) := relP_packed HRL.out hp2 hkept.of_drew
              clear HRL hp2 hkept c1 c2 c3 c4
              go_wp2
              go_loopw [13, 14] (fun kn m wq => ∃ i : Nat, i ≤ (jst js ns k).length ∧ m = .int .i64 i ∧ kn = .bool false ∧ RelP js ns wc n k g cap' (jst js ns (k + 1)) wq ∧ Hid (∀ q, q < i → gs (jst js ns k) q ≠ gs js k)) (fun _ m _ => (jst js ns k).length - (intOf m).toNat)
              case atStart => exact ⟨0, Nat.zero_le _, rfl, rfl, HMD.out, fun q hq => by omega⟩
              case round =>
                obtain ⟨i, hi, rfl, rfl, hrq, hne⟩ := hrel
                clear HMD
                have c1 : wr.cell? ⟨w.heap.size, k, none⟩ = some (.string (gs js k)) := (hrq.2.1.cell (p := ⟨w.heap.size, k, none⟩) l1).trans (r1.cell (by omega))
                have c2 : wr.cell? ⟨w1.heap.size, k, none⟩ = some (.string (gs ns k)) := (hrq.2.1.cell (p := ⟨w1.heap.size, k, none⟩) l2).trans (r2.cell (by omega))
                by_cases hlt2 : i < (jst js ns k).length
                · obtain ⟨b, off, e, _, cm⟩ := strsAt_of_owns hrq.2.2.1 i hlt2
                  cases e
                  rw [Nat.zero_add] at cm
                  have hi0 : (0 : Int) ≤ (i : Int) := by omega
                  have hi1 : (i : Int) < ((jst js ns k).length : Int) := by omega
                  by_cases he : gs (jst js ns k) i = gs js k
                  · have ht := str_eq.2 he
                    have HE : Hid (gs (jst js ns k) i = gs js k) := he
                    clear he
                    go_wp2
                    go_quiet (fail)
                    go_wp2_with fail
                    have hrq2 := relP_drew hrq nq
                    have hix := mem_gs hlt2 HE.out
                    have hjst := jst_found hix
                    have hpf := packs_found (n := gs ns k) hix
                    clear hix hrq ht cm
                    generalize wr.drewN nq = wm at hrq2 ⊢
                    replace c2 : wm.cell? ⟨w1.heap.size, k, none⟩ = some (.string (gs ns k)) := (hrq2.2.1.cell (p := ⟨w1.heap.size, k, none⟩) l2).trans (r2.cell (by omega))
                    clear c1
                    cases hdb : digsB (gs ns k)
                    · have hpk : packs (jst js ns k) (gs js k) (gs ns k) = false := hpf.trans hdb
                      clear hpf
                      have d1 := hrq2.2.2.2.2.1.cell (i := k) hlt
                      have d2 := hrq2.2.2.2.2.1.frozen k
                      have d3 := hrq2.2.2.2.2.2.cell (i := k) hlt
                      have d4 := hrq2.2.2.2.2.2.frozen k
                      have HQ : Hid _ := hrq2
                      have HE2 : Hid _ := hjst
                      clear hrq2 hjst
                      refine (digits19 (gs ns k) _ s2).mono ?_
                      rintro e w' ⟨rfl, rfl⟩
                      go_wp2
                      go_roundw
                      case rel =>
                        have hfin := relP_keep HQ.out HE2.out
                        rw [show okAt js ns k = false from hpk] at hfin
                        exact ⟨k + 1, g, cap', by omega, by go_num, by rw [HE2.out], hfin⟩
                      case measure => simp [intOf]; omega
                    · have hpk : packs (jst js ns k) (gs js k) (gs ns k) = true := hpf.trans hdb
                      clear hpf
                      have d1 := hrq2.2.2.2.2.1.cell (i := k) hlt
                      have d2 := hrq2.2.2.2.2.1.frozen k
                      have d3 := hrq2.2.2.2.2.2.cell (i := k) hlt
                      have d4 := hrq2.2.2.2.2.2.frozen k
                      have HQ : Hid _ := hrq2
                      have HE2 : Hid _ := hjst
                      clear hrq2 hjst
                      refine (digits19 (gs ns k) _ s2).mono ?_
                      rintro e w' ⟨rfl, rfl⟩
                      go_wp2
                      go_roundw
                      case rel =>
                        have hfin := relP_keep HQ.out HE2.out
                        rw [show okAt js ns k = true from hpk] at hfin
                        exact ⟨k + 1, g, cap', by omega, by go_num, by rw [HE2.out], hfin⟩
                      case measure => simp [intOf]; omega
                  · have ht := str_ne.2 he
                    have HE : Hid (gs (jst js ns k) i ≠ gs js k) := he
                    clear he
                    go_wp2
                    go_quiet (fail)
                    go_wp2
                    go_roundw
                    case rel => exact ⟨i + 1, by omega, by go_num, rfl, relP_drew hrq _, fun q hq => by
                      rcases Nat.lt_or_ge q i with h3 | h3
                      · exact hne.out q h3
                      · obtain rfl : q = i := by omega
                        exact HE.out⟩
                    case measure => simp [intOf]; omega
                · have hix : idx (jst js ns k) (gs js k) = (jst js ns k).length := idx_none (fun q hq => hne.out q (by omega))
                  have HIX : Hid _ := hix
                  have hrq2 := hrq
                  clear hix hrq
                  go_wp2_with fail
                  cases hdb : digsB (gs ns k)
                  · have hpk : packs (jst js ns k) (gs js k) (gs ns k) = false := packs_nodig hdb
                    have hjst := jst_no hpk
                    have d1 := hrq2.2.2.2.2.1.cell (i := k) hlt
                    have d2 := hrq2.2.2.2.2.1.frozen k
                    have d3 := hrq2.2.2.2.2.2.cell (i := k) hlt
                    have d4 := hrq2.2.2.2.2.2.frozen k
                    have HQ : Hid _ := hrq2
                    have HE2 : Hid _ := hjst
                    clear hrq2 hjst
                    refine (digits19 (gs ns k) _ s2).mono ?_
                    rintro e w' ⟨rfl, rfl⟩
                    go_wp2
                    go_roundw
                    case rel =>
                      have hfin := relP_keep HQ.out HE2.out
                      rw [show okAt js ns k = false from hpk] at hfin
                      exact ⟨k + 1, g, cap', by omega, by go_num, by rw [HE2.out], hfin⟩
                    case measure => simp [intOf]; omega
                  · by_cases hfull : (jst js ns k).length = 1024
                    · have hpk : packs (jst js ns k) (gs js k) (gs ns k) = false := packs_full (by rw [HIX.out]; omega) hfull
                      have hjst := jst_no hpk
                      have hge : 1024 ≤ (jst js ns k).length := by omega
                      clear hfull
                      have d1 := hrq2.2.2.2.2.1.cell (i := k) hlt
                      have d2 := hrq2.2.2.2.2.1.frozen k
                      have d3 := hrq2.2.2.2.2.2.cell (i := k) hlt
                      have d4 := hrq2.2.2.2.2.2.frozen k
                      have HQ : Hid _ := hrq2
                      have HE2 : Hid _ := hjst
                      clear hrq2 hjst
                      refine (digits19 (gs ns k) _ s2).mono ?_
                      rintro e w' ⟨rfl, rfl⟩
                      go_wp2
                      go_roundw
                      case rel =>
                        have hfin := relP_keep HQ.out HE2.out
                        rw [show okAt js ns k = false from hpk] at hfin
                        exact ⟨k + 1, g, cap', by omega, by go_num, by rw [HE2.out], hfin⟩
                      case measure => simp [intOf]; omega
                    · have hpk : packs (jst js ns k) (gs js k) (gs ns k) = true := packs_room hdb hfull
                      have hlt1024 : (jst js ns k).length < 1024 := by omega
                      have hdec : decide (((jst js ns k).length : Int) < 1024) = true := decide_eq_true (by omega)
                      have HE2 : Hid _ := jst_new hpk HIX.out
                      have HQ : Hid _ := hrq2
                      have HMT : Hid (MetIs wr g cap' (jst js ns k)) := hrq2.2.2.1
                      obtain ⟨i0, hi0', hz0, hz1, hz2⟩ := info_parts info9
                      clear hrq2 hfull
                      refine (digits19 (gs ns k) _ s2).mono ?_
                      rintro e w' ⟨rfl, rfl⟩
                      go_wp2_with (first | (at_builtin; refine wpList_append_lies _ rfl _ _ _ rfl 0 9 i0 _ 1 16 Try.underlying22 hi0' hz0 hz1 hz2 rfl (by omega) (.slice (some ⟨g, 0, none⟩) (jst js ns k).length cap') (jst js ns k).length ((jst js ns k).map Value.string) rfl (World.ownsRow.alloc HMT.out _) ⟨wr.heap.size, 0, none⟩ 1 1 [.string (gs js k)] rfl rfl (World.news_of_block (cs := #[.string (gs js k)]) (t := 9) (fr := (0, 0)) (heap_alloc_new wr _)) (by simp [Value.oneCell']) (by omega) (by unfold maxLen; omega) (by omega) (Nat.zero_le _) (wr.heap.size + 1) (by simp) ?_; intro g2 cap3 w3 hown3 hgrow3 hat3 hlt3; have hfin := relP_app HQ.out HE2.out hgrow3 hown3 hat3; have d1 := hfin.2.1.cell (i := k) hlt; have d2 := hfin.2.1.frozen k; have d3 := hfin.2.2.cell (i := k) hlt; have d4 := hfin.2.2.frozen k; have HF : Hid _ := hfin.1; clear hfin hown3 hgrow3 hat3))
                      go_roundw
                      case rel =>
                        have hfin := HF.out
                        rw [show okAt js ns k = true from hpk] at hfin
                        exact ⟨k + 1, g2, cap3, by omega, by go_num, by rw [HE2.out]; simp, hfin⟩
                      case measure => simp [intOf]; omega
            · obtain rfl : k = n := by omega
              have HL : Hid (RelP js ns wc k k g cap' (jst js ns k) wr) := hrel0
              clear hrel0
              go_wp2
              go_loopw [16] (fun i wq => ∃ p : Nat, p ≤ k ∧ i = .int .i64 p ∧ RelP js ns wc k k g cap' (jst js ns k) wq) (fun i _ => k - (intOf i).toNat)
              case atStart => exact ⟨0, Nat.zero_le _, rfl, HL.out⟩
              case round =>
                obtain ⟨p, hp, rfl, hrp⟩ := hrel
                clear HL
                by_cases hpk : p < k
                · obtain ⟨r1, rfl, l1⟩ := hG1 (by omega)
                  obtain ⟨r2, rfl, l2⟩ := hG2 (by omega)
                  clear hG1 hG2
                  have o1 := hrp.2.2.2.2.2.cell (i := p) hpk
                  simp only [okRow, hpk, if_true] at o1
                  cases hok : okAt js ns p
                  · rw [hok] at o1
                    go_wp2
                    go_roundw
                    case rel => exact ⟨p + 1, by omega, by go_num, hrp⟩
                    case measure => simp [intOf]; omega
                  · rw [hok] at o1
                    have HOK : Hid _ := hok
                    clear hok
                    go_wp2
                    go_loopw [17] (fun i wq => ∃ q : Nat, p < q ∧ q ≤ k ∧ i = .int .i64 q ∧ RelP js ns wc k k g cap' (jst js ns k) wq) (fun i _ => k - (intOf i).toNat)
                    case atStart => exact ⟨p + 1, by omega, by omega, by go_num, hrp⟩
                    case round =>
                      obtain ⟨q, hq0, hq1, rfl, hrq⟩ := hrel
                      clear hrp o1
                      by_cases hqk : q < k
                      · have o2 := hrq.2.2.2.2.2.cell (i := q) hqk
                        simp only [okRow, hqk, if_true] at o2
                        cases hok2 : okAt js ns q
                        · rw [hok2] at o2
                          go_wp2
                          go_roundw
                          case rel => exact ⟨q + 1, by omega, by omega, by go_num, hrq⟩
                          case measure => simp [intOf]; omega
                        · rw [hok2] at o2
                          have HLaw : Hid _ := keys_law hq0 HOK.out hok2
                          clear hok2
                          have c1 : wr.cell? ⟨w.heap.size, p, none⟩ = some (.string (gs js p)) := (hrq.2.1.cell (p := ⟨w.heap.size, p, none⟩) l1).trans (r1.cell (by omega))
                          have c2 : wr.cell? ⟨w1.heap.size, p, none⟩ = some (.string (gs ns p)) := (hrq.2.1.cell (p := ⟨w1.heap.size, p, none⟩) l2).trans (r2.cell (by omega))
                          have c3 : wr.cell? ⟨w.heap.size, q, none⟩ = some (.string (gs js q)) := (hrq.2.1.cell (p := ⟨w.heap.size, q, none⟩) l1).trans (r1.cell (by omega))
                          have c4 : wr.cell? ⟨w1.heap.size, q, none⟩ = some (.string (gs ns q)) := (hrq.2.1.cell (p := ⟨w1.heap.size, q, none⟩) l2).trans (r2.cell (by omega))
                          have k1 := hrq.2.2.2.2.1.cell (i := p) hpk
                          have k2 := hrq.2.2.2.2.1.cell (i := q) hqk
                          simp only [keyRow, hpk, hqk, if_true] at k1 k2
                          have b0 : (0 : Int) ≤ (p : Int) := by omega
                          have b1 : (p : Int) < (js.length : Int) := by omega
                          have b2 : (p : Int) < (ns.length : Int) := by omega
                          have b3 : (0 : Int) ≤ (q : Int) := by omega
                          have b4 : (q : Int) < (js.length : Int) := by omega
                          have b5 : (q : Int) < (ns.length : Int) := by omega
                          have b6 : (p : Int) < (k : Int) := by omega
                          have b7 : (q : Int) < (k : Int) := by omega
                          by_cases hj : gs js p = gs js q
                          · have ht1 := str_eq.2 hj
                            by_cases hn : gs ns p = gs ns q
                            · have ht2 := str_eq.2 hn
                              have hk : ((keyAt js ns p : Int) == (keyAt js ns q : Int)) = true := beq_iff_eq.2 (Int.ofNat_inj.2 (HLaw.out.2 ⟨hj, hn⟩))
                              clear hj hn HLaw
                              go_wp2
                              go_quiet (fail)
                              go_wp2
                              go_quiet (fail)
                              go_wp2
                              go_roundw
                              case rel => exact ⟨q + 1, by omega, by omega, by go_num, relP_drew hrq _⟩
                              case measure => simp [intOf]; omega
                            · have ht2 := str_ne.2 hn
                              have hk : ((keyAt js ns p : Int) == (keyAt js ns q : Int)) = false := beq_eq_false_iff_ne.2 (fun e => hn (HLaw.out.1 (Int.ofNat_inj.1 e)).2)
                              clear hj hn HLaw
                              go_wp2
                              go_quiet (fail)
                              go_wp2
                              go_quiet (fail)
                              go_wp2
                              go_roundw
                              case rel => exact ⟨q + 1, by omega, by omega, by go_num, relP_drew hrq _⟩
                              case measure => simp [intOf]; omega
                          · have ht1 := str_ne.2 hj
                            have hk : ((keyAt js ns p : Int) == (keyAt js ns q : Int)) = false := beq_eq_false_iff_ne.2 (fun e => hj (HLaw.out.1 (Int.ofNat_inj.1 e)).1)
                            clear hj HLaw
                            go_wp2
                            go_quiet (fail)
                            go_wp2
                            go_quiet (fail)
                            go_wp2
                            go_roundw
                            case rel => exact ⟨q + 1, by omega, by omega, by go_num, relP_drew hrq _⟩
                            case measure => simp [intOf]; omega
                      · go_wp2
                        go_roundw
                        case rel => exact ⟨p + 1, by omega, by go_num, hrq⟩
                        case measure => simp [intOf]; omega
                · go_wp2
                  go_ret
                  exact ⟨rfl, HBW.out.trans (hrp.2.1.mono HBW.out.size)⟩
      · go_wp2
        go_ret
        exact ⟨rfl, Below.refl _ _⟩
    · go_wp2
      go_ret
      exact ⟨rfl, Below.refl _ _⟩

theorem lawP (a : Option Addr) (js : List ByteArray) (cap : Nat) (a2 : Option Addr) (ns : List ByteArray) (cap2 : Nat) (w : World) (h : StrsAt w a js) (hl : js.length ≤ maxLen) (h2 : StrsAt w a2 ns) (hl2 : ns.length ≤ maxLen) :
    Calls Try.prog 5 #[.slice a js.length cap, .slice a2 ns.length cap2] w (TruePost w) := lawP0 a a2 js ns cap cap2 w h hl h2 hl2

end Go.Proofs.Qxb6000395a
