import Derived.Test.YbulkdnxyTail
import Derived.StillTailTactics
import Derived.Deep.QuietTactic
import Derived.BigQuiet
import Derived.Deep.LoopGhost
import Derived.Deep.DeepCutAuto
namespace Go.Proofs.Ybulkdnxy
open Go.RowKit
set_option linter.unusedVariables false

set_option maxRecDepth 100000 in
set_option maxHeartbeats 8000000 in
theorem walk_main (na sa : Option Addr) (nn nc pl pc : Nat) (X : Nat → Src) (S : Nat → Sg) (w : World) (hN : NRow w na nn X) (hS : SRow w sa pl S) (hnn : nn ≤ 4096) (hpl : pl ≤ 4096) :
    Calls Yba.prog 3 #[.slice na nn nc, .slice sa pl pc] w fun e w' => e = .returned (.bool true) ∧ Below w.heap.size w w' := by
  have hmk := run_mkP nn (by omega)
  have HN : Hid (NRow w na nn X) := hN
  have HS : Hid (SRow w sa pl S) := hS
  clear hN hS
  go_enter Yba.func3, Yba.ntmps3
  go_wp2
  go_loopw [44] (fun i wr => ∃ k : Nat, k ≤ nn ∧ i = .int .i64 k ∧ B1 w wr nn k) (fun i _ => nn - (intOf i).toNat)
  case atStart => exact ⟨0, Nat.zero_le _, rfl, B1.start w nn⟩
  case round =>
    clear hmk
    obtain ⟨k, hk, rfl, hB⟩ := hrel
    have HB : Hid (B1 w wr nn k) := hB
    clear hB
    by_cases hlt : k < nn
    · obtain ⟨u, hu⟩ := HB.out.cell hlt
      have hfr := HB.out.free hlt
      have hsz : w.heap.size < wr.heap.size := by rw [HB.out.size]; omega
      go_wp2
      go_roundw
      case rel => exact ⟨k + 1, by omega, by go_num, HB.out.step hlt⟩
      case measure => simp [intOf]; omega
    · have hkn : k = nn := by omega
      subst hkn
      have HB2 : Hid (B2 w wr k 0 (fun i => (X i).d)) := B2.start HB.out _
      clear HB
      go_wp2
      rename_i KT hT
      have HT : Hid _ := hT
      clear hT
      go_loopg [8] k (fun g i wq => ∃ m : Nat, m ≤ k ∧ g = k - m ∧ i = .int .i64 m ∧ B2 w wq k m (fun i => (X i).d))
      case atStart => exact ⟨0, Nat.zero_le _, rfl, rfl, HB2.out⟩
      case round =>
        clear HB2
        obtain ⟨m, hm, rfl, rfl, hB⟩ := hrel
        have HB : Hid (B2 w _ k m (fun i => (X i).d)) := hB
        by_cases hlt : m < k
        · obtain ⟨nb, no, rfl, hnb, hcn⟩ := HN.out (by omega)
          obtain ⟨c0, c1, c2, c3, hgood⟩ := hcn m hlt
          clear hcn
          generalize hx : X m = x at c0 c1 c2 c3 hgood
          have HX : Hid (X m = x) := hx
          clear hx
          obtain ⟨ka, kc, da, dc, ia, ic, d⟩ := x
          dsimp only at c0 c1 c2 c3
          have hbel := hB.bel
          have e0 := (hbel.cell (p := ⟨nb, no + m * 4, none⟩) hnb).trans c0
          have e1 := (hbel.cell (p := ⟨nb, no + m * 4 + 1, none⟩) hnb).trans c1
          have e2 := (hbel.cell (p := ⟨nb, no + m * 4 + 2, none⟩) hnb).trans c2
          have e3 := (hbel.cell (p := ⟨nb, no + m * 4 + 3, none⟩) hnb).trans c3
          have hrow := hB.row m hlt
          have hsz := hB.size
          have hobj := hB.todo m (Nat.le_refl _) hlt
          clear hB hbel c0 c1 c2 c3
          have hs1 : w.heap.size < wr.heap.size := by omega
          have hs2 : w.heap.size + 1 + m < wr.heap.size := by omega
          obtain ⟨W1, rfl⟩ : ∃ W1, W1 = wr := ⟨_, rfl⟩
          have HO : Hid (W1.heap[w.heap.size + 1 + m]? = some (nodeObj (.map none) (.slice none 0 0) none)) := hobj
          have HG : Hid (Good w ⟨ka, kc, da, dc, ia, ic, d⟩) := hgood
          clear hobj hgood
          go_upto_if 69 with fail
          go_cut [11, 12, 13, 14] (fun _ _ _ _ wc => K1 W1 wc w.heap.size (w.heap.size + 1 + m) k ⟨ka, kc, da, dc, ia, ic, d⟩)
          case first =>
            by_cases hk0 : 0 < d.nk
            · have hkb : decide (0 < d.nk) = true := by simp [hk0]
              rw [hkb]
              clear hkb
              have hmm := @run_makeMap Yba.prog
              obtain ⟨n5, n6, n7⟩ := cells_of_node HO.out
              have f5 := node_free HO.out 5
              go_wp2
              clear hmm n5 n6 n7 f5
              go_loopg [77] (d.nk) (fun q i wq => ∃ j : Nat, j ≤ d.nk ∧ q = d.nk - j ∧ i = .int .i64 j ∧ K2 W1 wq (w.heap.size + 1 + m) w.heap.size k j ⟨ka, kc, da, dc, ia, ic, d⟩)
              case atStart => exact ⟨0, Nat.zero_le _, rfl, rfl, K2.start (x := ⟨ka, kc, da, dc, ia, ic, d⟩) HO.out⟩
              case round =>
                obtain ⟨j, hj, rfl, rfl, hK⟩ := hrel
                have HK : Hid (K2 W1 wr (w.heap.size + 1 + m) w.heap.size k j ⟨ka, kc, da, dc, ia, ic, d⟩) := hK
                obtain ⟨d0, d1, d2, d3⟩ := d_cells hK.dob
                dsimp only at d0 d1 d2 d3
                obtain ⟨n5, _, _⟩ := cells_of_node hK.node
                have hbk : d.nk ≤ 140737488351232 := HG.out.bk
                by_cases hjn : j < d.nk
                · obtain ⟨kb, ko, hka, hkl, hkc⟩ := HG.out.keys hk0
                  dsimp only at hka
                  subst hka
                  have ck : wr.cell? ⟨kb, ko + j, none⟩ = some (.string (d.K j)) := (gr_cell hK.gr (p := ⟨kb, ko + j, none⟩) (by show kb < _; omega) (by show kb ≠ _; omega)).trans ((HB.out.bel.cell (p := ⟨kb, ko + j, none⟩) hkl).trans (hkc j hjn))
                  clear hkc
                  have hbd : d.nd ≤ 140737488351232 := HG.out.bd
                  obtain ⟨o, hup, hmp⟩ := run_update (P := Yba.prog) Yba.underlying29 Yba.underlying9 wr _ _ hK.map (d.K j) (.pointer (ptrA (w.heap.size + 1) (kidF d k j)))
                  have HNX : Hid (K2 W1 (putB wr (W1.heap.size + 1) o) (w.heap.size + 1 + m) w.heap.size k (j + 1) ⟨some ⟨kb, ko, none⟩, kc, da, dc, ia, ic, d⟩) := hK.step (by omega) hmp
                  clear hmp
                  by_cases hjd : j < d.nd
                  · obtain ⟨db, dof, hda, hdl, hdc⟩ := HG.out.kids (by dsimp only; omega)
                    dsimp only at hda
                    subst hda
                    have cd : wr.cell? ⟨db, dof + j, none⟩ = some (.int .i64 (d.D j)) := (gr_cell hK.gr (p := ⟨db, dof + j, none⟩) (by show db < _; omega) (by show db ≠ _; omega)).trans ((HB.out.bel.cell (p := ⟨db, dof + j, none⟩) hdl).trans (hdc j hjd))
                    have hpk := pick_any (d.D j) k wr hnn (HG.out.rd j).1 (HG.out.rd j).2
                    have hkid : kidF d k j = pickF (d.D j) k := by unfold kidF; rw [if_pos hjd]
                    rw [hkid] at hup
                    clear hkid hdc
                    have HRow : Hid (∀ q, q < k → wr.cell? ⟨w.heap.size, q, none⟩ = some (.pointer (some ⟨w.heap.size + 1 + q, 0, none⟩))) := fun q hq => (gr_cell hK.gr (p := ⟨w.heap.size, q, none⟩) (by show w.heap.size < _; omega) (by show w.heap.size ≠ _; omega)).trans (HB.out.row q hq)
                    clear hK
                    by_cases hpi : pickI (d.D j) k < 0
                    · rw [show pickF (d.D j) k = none from by unfold pickF; rw [if_pos hpi]] at hup
                      simp only [ptrA, Option.map_none] at hup
                      generalize pickI (d.D j) k = pv at *
                      go_wp2_with (go_at_call 4; refine hpk.mono ?_; clear hpk; rintro e wr ⟨rfl, rfl⟩)
                      go_roundg (d.nk - (j + 1))
                      case measure => omega
                      case rel => exact ⟨j + 1, by omega, rfl, by go_num, HNX.out⟩
                    · obtain ⟨q, hq⟩ := Int.eq_ofNat_of_zero_le (show 0 ≤ pickI (d.D j) k by omega)
                      have hpf : pickF (d.D j) k = some q := by unfold pickF; rw [if_neg hpi, hq]; rfl
                      have hqk := pickF_lt hpf
                      rw [hpf] at hup
                      simp only [ptrA, Option.map_some] at hup
                      rw [hq] at hpk
                      have cq := HRow.out q hqk
                      clear hpi hpf hq
                      go_wp2_with (go_at_call 4; refine hpk.mono ?_; clear hpk; rintro e wr ⟨rfl, rfl⟩)
                      go_roundg (d.nk - (j + 1))
                      case measure => omega
                      case rel => exact ⟨j + 1, by omega, rfl, by go_num, HNX.out⟩
                  · have hkid : kidF d k j = none := by unfold kidF; rw [if_neg hjd]
                    rw [hkid] at hup
                    simp only [ptrA, Option.map_none] at hup
                    clear hkid
                    clear hK
                    go_wp2
                    go_roundg (d.nk - (j + 1))
                    case measure => omega
                    case rel => exact ⟨j + 1, by omega, rfl, by go_num, HNX.out⟩
                · have hjk : j = d.nk := by omega
                  clear hK d0 d1 d2 d3 n5
                  go_wp2
                  go_meet
                  case rel =>
                    have hfi := HK.out
                    rw [hjk] at hfi
                    exact hfi.finish hsz
            · have hk00 : d.nk = 0 := by omega
              go_wp2
              go_meet
              case rel => exact K1.empty (x := ⟨ka, kc, da, dc, ia, ic, d⟩) HO.out hk00
          case rest =>
            have HK1 : Hid (K1 W1 wc w.heap.size (w.heap.size + 1 + m) k ⟨ka, kc, da, dc, ia, ic, d⟩) := hcut
            clear hcut
            clear e0 e1 e2 e3 hrow
            obtain ⟨d0, d1, d2, d3⟩ := d_cells HK1.out.dob
            dsimp only at d0 d1 d2 d3
            have hbi : d.ni * 8 ≤ 140737488351232 := HG.out.bi
            go_upto_if 110 with fail
            go_cut [15, 16, 17] (fun _ _ _ wd => K3 W1 wd w.heap.size (w.heap.size + 1 + m) k ⟨ka, kc, da, dc, ia, ic, d⟩)
            case first =>
              by_cases hi0 : 0 < d.ni
              · have hkb : decide (0 < d.ni) = true := by simp [hi0]
                rw [hkb]
                clear hkb
                have hmk2 := run_mkP d.ni (by omega)
                obtain ⟨kv, hnd, hky⟩ := HK1.out.node
                obtain ⟨n5, n6, n7⟩ := cells_of_node hnd
                have f6 := node_free hnd 6
                have HND : Hid (wc.heap[w.heap.size + 1 + m]? = some (nodeObj kv (.slice none 0 0) none) ∧ KeysOK wc (w.heap.size + 1) (w.heap.size + 1 + k) k kv d) := ⟨hnd, hky⟩
                clear hnd hky
                have hbc : w.heap.size + 1 + m < wc.heap.size := Nat.lt_of_lt_of_le hs2 HK1.out.gr.size
                have hwc : W1.heap.size < wc.heap.size := lt_of_heap HK1.out.dob
                go_wp2
                clear hmk2 n5 n6 n7 f6 d0 d1 d2 d3
                go_loopg [121] (d.ni) (fun q i wq => ∃ j : Nat, j ≤ d.ni ∧ q = d.ni - j ∧ i = .int .i64 j ∧ K4 wc wq (w.heap.size + 1 + m) w.heap.size k j ⟨ka, kc, da, dc, ia, ic, d⟩ kv)
                case atStart => exact ⟨0, Nat.zero_le _, rfl, rfl, K4.start (x := ⟨ka, kc, da, dc, ia, ic, d⟩) HND.out.1⟩
                case round =>
                  obtain ⟨j, hj, rfl, rfl, hK⟩ := hrel
                  have HK : Hid (K4 wc wr (w.heap.size + 1 + m) w.heap.size k j ⟨ka, kc, da, dc, ia, ic, d⟩ kv) := hK
                  by_cases hjn : j < d.ni
                  · obtain ⟨ib, io, hia, hil, hic⟩ := HG.out.items hi0
                    dsimp only at hia
                    subst hia
                    have ci : wr.cell? ⟨ib, io + j, none⟩ = some (.int .i64 (d.I j)) := (gr_cell hK.gr (p := ⟨ib, io + j, none⟩) (by show ib < _; omega) (by show ib ≠ _; omega)).trans ((gr_cell HK1.out.gr (p := ⟨ib, io + j, none⟩) (by show ib < _; omega) (by show ib ≠ _; omega)).trans ((HB.out.bel.cell (p := ⟨ib, io + j, none⟩) hil).trans (hic j hjn)))
                    have hpk := pick_any (d.I j) k wr hnn (HG.out.ri j).1 (HG.out.ri j).2
                    clear hic
                    by_cases hpi : pickI (d.I j) k < 0
                    · have HNX : Hid (K4 wc wr (w.heap.size + 1 + m) w.heap.size k (j + 1) ⟨ka, kc, da, dc, some ⟨ib, io, none⟩, ic, d⟩ kv) := hK.skip hjn (by unfold pickF; rw [if_pos hpi])
                      clear hK
                      generalize pickI (d.I j) k = pv at *
                      go_wp2_with (go_at_call 4; refine hpk.mono ?_; clear hpk; rintro e wr ⟨rfl, rfl⟩)
                      go_roundg (d.ni - (j + 1))
                      case measure => omega
                      case rel => exact ⟨j + 1, by omega, rfl, by go_num, HNX.out⟩
                    · obtain ⟨q, hq⟩ := Int.eq_ofNat_of_zero_le (show 0 ≤ pickI (d.I j) k by omega)
                      have hpf : pickF (d.I j) k = some q := by unfold pickF; rw [if_neg hpi, hq]; rfl
                      have hqk := pickF_lt hpf
                      have HNX : Hid (K4 wc (wr.drew.setCell ⟨wc.heap.size, j, none⟩ (.pointer (some ⟨w.heap.size + 1 + q, 0, none⟩))) (w.heap.size + 1 + m) w.heap.size k (j + 1) ⟨ka, kc, da, dc, some ⟨ib, io, none⟩, ic, d⟩ kv) := hK.put hbc hjn hpf
                      rw [hq] at hpk
                      have cq : wr.cell? ⟨w.heap.size, q, none⟩ = some (.pointer (some ⟨w.heap.size + 1 + q, 0, none⟩)) := (gr_cell hK.gr (p := ⟨w.heap.size, q, none⟩) (by show w.heap.size < _; omega) (by show w.heap.size ≠ _; omega)).trans ((gr_cell HK1.out.gr (p := ⟨w.heap.size, q, none⟩) (by show w.heap.size < _; omega) (by show w.heap.size ≠ _; omega)).trans (HB.out.row q hqk))
                      obtain ⟨_, n6, _⟩ := cells_of_node hK.node
                      dsimp only at n6
                      have ct := hK.todo j (Nat.le_refl _) hjn
                      have cf := hK.free j hjn
                      have i0 : (0 : Int) ≤ (j : Int) := by omega
                      have i1 : (j : Int) < (d.ni : Int) := by omega
                      have i2 : (0 : Int) ≤ (q : Int) := by omega
                      have i3 : (q : Int) < (k : Int) := by omega
                      clear hpi hpf hq hK
                      go_wp2_with (go_at_call 4; refine hpk.mono ?_; clear hpk; rintro e wr ⟨rfl, rfl⟩)
                      go_still_tail 10, (by kernel_rfl)
                      go_wp2
                      go_roundg (d.ni - (j + 1))
                      case measure => omega
                      case rel => exact ⟨j + 1, by omega, rfl, by go_num, HNX.out⟩
                  · have hjk : j = d.ni := by omega
                    clear hK
                    go_wp2
                    go_meet
                    case rel =>
                      have hfi := HK.out
                      rw [hjk] at hfi
                      exact hfi.finish HK1.out HND.out.2 (by omega) hsz
              · have hi00 : d.ni = 0 := by omega
                go_wp2
                go_meet
                case rel => exact K3.empty HK1.out hi00
            case rest =>
              clear HK1 d0 d1 d2 d3
              have HK3 : Hid (K3 W1 wc w.heap.size (w.heap.size + 1 + m) k ⟨ka, kc, da, dc, ia, ic, d⟩) := hcut
              clear hcut
              obtain ⟨d0, d1, d2, d3⟩ := d_cells HK3.out.dob
              dsimp only at d0 d1 d2 d3
              clear d0 d1 d2
              have hpk := pick_any d.fm k wc hnn HG.out.rf.1 HG.out.rf.2
              have HXD : Hid ((X m).d = d) := by show (X m).d = d; rw [HX.out]
              by_cases hpi : pickI d.fm k < 0
              · have HNX : Hid (B2 w wc k (m + 1) (fun i => (X i).d)) := HB.out.step hlt HK3.out.gr (by rw [HXD.out]; exact HK3.out.endNone (by unfold pickF; rw [if_pos hpi]))
                generalize pickI d.fm k = pv at *
                go_wp2_with (go_at_call 4; refine hpk.mono ?_; clear hpk; rintro e wc ⟨rfl, rfl⟩)
                go_roundg (k - (m + 1))
                case measure => omega
                case rel => exact ⟨m + 1, by omega, rfl, by go_num, HNX.out⟩
              · obtain ⟨q, hq⟩ := Int.eq_ofNat_of_zero_le (show 0 ≤ pickI d.fm k by omega)
                have hpf : pickF d.fm k = some q := by unfold pickF; rw [if_neg hpi, hq]; rfl
                have hqk := pickF_lt hpf
                have HNX : Hid (B2 w (wc.setCell ⟨w.heap.size + 1 + m, 7, none⟩ (.pointer (some ⟨w.heap.size + 1 + q, 0, none⟩))) k (m + 1) (fun i => (X i).d)) := HB.out.step hlt (gb_set HK3.out.gr _ (.inl rfl) _) (by rw [HXD.out]; exact HK3.out.endSome (by omega) hpf)
                rw [hq] at hpk
                have cq : wc.cell? ⟨w.heap.size, q, none⟩ = some (.pointer (some ⟨w.heap.size + 1 + q, 0, none⟩)) := (gr_cell HK3.out.gr (p := ⟨w.heap.size, q, none⟩) (by show w.heap.size < _; omega) (by show w.heap.size ≠ _; omega)).trans (HB.out.row q hqk)
                obtain ⟨kv, iv, hnd, _⟩ := HK3.out.node
                obtain ⟨_, _, n7⟩ := cells_of_node hnd
                have f7 := node_free hnd 7
                clear hpi hpf hq hnd
                go_wp2_with (go_at_call 4; refine hpk.mono ?_; clear hpk; rintro e wc ⟨rfl, rfl⟩)
                go_roundg (k - (m + 1))
                case measure => omega
                case rel => exact ⟨m + 1, by omega, rfl, by go_num, HNX.out⟩
        · have hmk : m = k := by omega
          subst hmk
          clear hB
          go_wp2_with fail
          exact HT.out _ _ (walk_tail na sa m nc pl pc X S w _ HN.out HS.out hnn hpl HB.out _ _ _ _ _ _ _ _ _ _ _ _ _ _ _ _ _ _ _ _ _ _ _ _ _ _ _ _ _ _ _ _ _ _ _ _ _ _ _ _ _ _ _ _ _ _ _ _ _ _ _ _ _ _ _ _ _ _ _ _ _ _ _ _ _ _ _ _ _ _ _ _ _ _ _ _ _ _ _ _ _ _ _ _ _ _ _ _ _ _ _ _ _ _ _ _ _ _ _ _ _ _ _ _ _ _ _ _ _ _ _ _ _ _ _ _ _ _ _ _ _ _ _ _ _ _ _ _ _ _ _ _ _ _ _ _ _ _ _ _ _ _ _ _ _ _ _ _ _ _ _ _ _ _ _ _ _ _ _ _ _ _ _ _ _ _ _ _ _ _ _ _ _ _ _ _ _ _ _ _ _ _ _ _ _ _ _ _ _ _ _ _ _ _ _ _ _ _ _ _ _ _ _ _ _ _ _ _ _ _ _ _ _ _ _ _ _ _ _ _ _ _ _ _ _ _ _ _ _ _ _ _ _ _ _ _ _ _ _ _ _ _ _ _ _ _ _ _ _ _ _ _ _ _ _ _ _ _ _ _ _ _ _ _ _ _ _ _ _ _ _ _ _ _ _ _ _ _)
end Go.Proofs.Ybulkdnxy
