import Derived.Test.YbulkdnusBParts
namespace Go.Proofs.Ybulkdnus
open Go.RowKit

theorem dec2 (a b : Int) : (decide (a ≤ b) = true ∧ decide (b < a) = false) ∨ (decide (a ≤ b) = false ∧ decide (b < a) = true) := by
  simp; omega

set_option maxRecDepth 100000 in
set_option maxHeartbeats 800000 in
theorem walk_full (limit room used n sh pick : Int) (b off m cap : Nat) (H : Nat → Int) (w : World) (hc : ∀ i, i < m → w.cell? ⟨b, off + i, none⟩ = some (.int .i64 (H i))) (hm0 : 0 < m) (hm : m ≤ 1048576)
    (hp0 : 0 ≤ pick) (hp1 : pick ≤ 255) :
    Calls Yba.prog 4 #[.int .i64 limit, .int .i64 room, .int .i64 used, .int .i64 n, .slice (some ⟨b, off, none⟩) m cap, .int .u8 pick, .int .i64 sh] w fun e w' => e = .returned (.bool true) ∧ Below w.heap.size w w' := by
  have hmk := run_mkP m hm
  have hbw : b < w.heap.size := World.block_lt_of_cell? w _ (hc 0 hm0)
  have HC : Hid (∀ i, i < m → w.cell? ⟨b, off + i, none⟩ = some (.int .i64 (H i))) := hc
  clear hc
  go_enter Yba.func4, Yba.ntmps4
  go_wp2
  go_loopw [17] (fun i wr => ∃ k : Nat, k ≤ m ∧ i = .int .i64 k ∧ Strm w wr m k H) (fun i _ => m - (intOf i).toNat)
  case atStart => exact ⟨0, Nat.zero_le _, rfl, Strm.start w m H⟩
  case round =>
    clear hmk
    obtain ⟨k, hk, rfl, hS⟩ := hrel
    have HS : Hid (Strm w wr m k H) := hS
    clear hS
    by_cases hlt : k < m
    · have ck : wr.cell? ⟨b, off + k, none⟩ = some (.int .i64 (H k)) := (HS.out.bel.cell (p := ⟨b, off + k, none⟩) hbw).trans (HC.out k hlt)
      obtain ⟨u, hu⟩ := HS.out.cell hlt
      have hfr := HS.out.free hlt
      have hsz : w.heap.size < wr.heap.size := by rw [HS.out.size]; omega
      go_wp2
      go_roundw
      case rel => exact ⟨k + 1, by omega, by go_num, HS.out.step hlt⟩
      case measure => simp [intOf]; omega
    · have hkm : k = m := by omega
      subst hkm
      obtain ⟨kp, hkp, hkm⟩ : ∃ kp : Nat, pick % ((k : Int) + 1) = (kp : Int) ∧ kp ≤ k := by
        have h1 : 0 ≤ pick % ((k : Int) + 1) := Int.emod_nonneg _ (by omega)
        have h2 : pick % ((k : Int) + 1) < (k : Int) + 1 := Int.emod_lt_of_pos _ (by omega)
        exact ⟨(pick % ((k : Int) + 1)).toNat, by omega, by omega⟩
      have hL := Laid.start HS.out limit room used
      have hsz := HS.out.size
      have hg : w.heap.size < wr.heap.size := by omega
      have HL : Hid (Laid w (wr.alloc (budObj limit room used w.heap.size k)) k wr.heap.size H limit room used) := hL
      have HSZ : Hid (wr.heap.size = w.heap.size + 1 + k) := hsz
      have ck : kp < k → wr.cell? ⟨w.heap.size, kp, none⟩ = some (.pointer (some ⟨w.heap.size + 1 + kp, 0, none⟩)) := fun h => HS.out.row kp h
      have ch : kp < k → wr.cell? ⟨w.heap.size + 1 + kp, 0, none⟩ = some (.int .i64 (H kp)) := fun h => (cell_of_strm (HS.out.obj kp h)).1
      have hg2 : kp < k → w.heap.size + 1 + kp < wr.heap.size := fun h => by omega
      clear hsz hL HS
      by_cases hk0 : kp = 0
      · subst hk0
        have ck' := ck hm0
        have ch' := ch hm0
        have hg2' := hg2 hm0
        clear ck ch hg2
        have hgr : Calls Yba.prog 9 #[.pointer (some ⟨wr.heap.size, 0, none⟩), .pointer (some ⟨w.heap.size + 1, 0, none⟩), .int .i64 n] (wr.alloc (budObj limit room used w.heap.size k)) fun e W =>
            e = .returned (.bool (decide (wrap64 (used + n) ≤ room) || (used == H 0))) ∧ Laid w W k wr.heap.size H limit room used ∧ W.heap[w.heap.size + 1]? = some (strmObj (H 0)) :=
          (grow_first wr.heap.size w.heap.size k limit room used (H 0) n (w.heap.size + 1) _ (HL.out.budget hm0) (cell_of_strm (HL.out.obj 0 hm0)).1 hm).mono (by
            rintro e W ⟨rfl, kd, rfl⟩
            exact ⟨rfl, HL.out.drewN kd, (HL.out.drewN kd).obj 0 hm0⟩)
        unfold budObj at hgr
        rcases dec2 (wrap64 (used + n)) room with ⟨hd, hd2⟩ | ⟨hd, hd2⟩
        all_goals
          rw [hd] at hgr
          go_wp2_with fail
          refine hgr.mono ?_
          clear hgr
          rintro e W ⟨rfl, hLW, hSW⟩
          clear HL
          have HLW : Hid (Laid w W k wr.heap.size H limit room used ∧ W.heap[w.heap.size + 1]? = some (strmObj (H 0))) := ⟨hLW, hSW⟩
          obtain ⟨b0, b1, b4, b5, b6, b7⟩ := hLW.cells
          have h00 : W.cell? ⟨b, off, none⟩ = some (.int .i64 (H 0)) := (hLW.bel.cell (p := ⟨b, off, none⟩) hbw).trans (HC.out 0 hm0)
          clear hLW hSW
          generalize wr.heap.size = B at *
          go_wp2_with fail
          go_loopw [25] (fun i wq => ∃ j : Nat, j ≤ k ∧ i = .int .i64 j ∧ Laid w wq k B H limit room used ∧ wq.heap[w.heap.size + 1]? = some (strmObj (H 0))) (fun i _ => k - (intOf i).toNat)
          case atStart => exact ⟨0, Nat.zero_le _, rfl, HLW.out⟩
          case round =>
            clear HLW b0 b1 b4 b5 b6 b7 h00
            obtain ⟨j, hj, rfl, hLq, hSq⟩ := hrel
            have HLQ : Hid (Laid w _ k B H limit room used ∧ _) := ⟨hLq, hSq⟩
            have hnf := neq1_nil
            by_cases hjk : j < k
            · obtain ⟨b0, b1, b4, b5, b6, b7⟩ := hLq.cells
              have q0 := hLq.row j hjk
              obtain ⟨s0, s1, s2⟩ := cell_of_strm (hLq.obj j hjk)
              have hj0 := (hLq.bel.cell (p := ⟨b, off + j, none⟩) hbw).trans (HC.out j hjk)
              have i0 : (0 : Int) ≤ (j : Int) := by omega
              have i1 : (j : Int) < (k : Int) := by omega
              have hneq := neq30_same
              clear hLq hSq
              go_wp2
              go_quiet (fail)
              go_wp2
              go_roundw
              case rel => exact ⟨j + 1, by omega, by go_num, HLQ.out.1.drewN _, HLQ.out.2⟩
              case measure => simp [intOf]; omega
            · obtain ⟨s0, s1, s2⟩ := cell_of_strm hSq
              clear hLq hSq
              go_wp2
              go_ret
              exact ⟨rfl, HLQ.out.1.bel⟩
      have hk0' : ((kp : Int) == 0) = false := by rw [beq_eq_false_iff_ne]; omega
      by_cases hkk : kp < k
      · have ck' := ck hkk
        have ch' := ch hkk
        have hg2' := hg2 hkk
        clear ck ch hg2
        have hgr : Calls Yba.prog 9 #[.pointer (some ⟨wr.heap.size, 0, none⟩), .pointer (some ⟨w.heap.size + 1 + kp, 0, none⟩), .int .i64 n] (wr.alloc (budObj limit room used w.heap.size k)) fun e W =>
            e = .returned (.bool (decide (wrap64 (used + n) ≤ limit))) ∧ Laid w W k wr.heap.size H limit room used ∧ W.heap[w.heap.size + 1 + kp]? = some (strmObj (H kp)) :=
          (grow_other wr.heap.size w.heap.size k limit room used n (w.heap.size + 1 + 0) (w.heap.size + 1 + kp) _ (HL.out.budget hm0) (by omega) (HL.out.obj 0 hm0) (HL.out.obj kp hkk) hm).mono (by
            rintro e W ⟨rfl, kd, rfl⟩
            exact ⟨rfl, HL.out.drewN kd, (HL.out.drewN kd).obj kp hkk⟩)
        unfold budObj at hgr
        rcases dec2 (wrap64 (used + n)) limit with ⟨hd, hd2⟩ | ⟨hd, hd2⟩
        all_goals
          rw [hd] at hgr
          go_wp2_with fail
          refine hgr.mono ?_
          clear hgr
          rintro e W ⟨rfl, hLW, hSW⟩
          clear HL
          have HLW : Hid (Laid w W k wr.heap.size H limit room used ∧ W.heap[w.heap.size + 1 + kp]? = some (strmObj (H kp))) := ⟨hLW, hSW⟩
          obtain ⟨b0, b1, b4, b5, b6, b7⟩ := hLW.cells
          have h00 : W.cell? ⟨b, off, none⟩ = some (.int .i64 (H 0)) := (hLW.bel.cell (p := ⟨b, off, none⟩) hbw).trans (HC.out 0 hm0)
          clear hLW hSW
          generalize wr.heap.size = B at *
          go_wp2_with fail
          go_loopw [25] (fun i wq => ∃ j : Nat, j ≤ k ∧ i = .int .i64 j ∧ Laid w wq k B H limit room used ∧ wq.heap[w.heap.size + 1 + kp]? = some (strmObj (H kp))) (fun i _ => k - (intOf i).toNat)
          case atStart => exact ⟨0, Nat.zero_le _, rfl, HLW.out⟩
          case round =>
            clear HLW b0 b1 b4 b5 b6 b7 h00
            obtain ⟨j, hj, rfl, hLq, hSq⟩ := hrel
            have HLQ : Hid (Laid w _ k B H limit room used ∧ _) := ⟨hLq, hSq⟩
            have hnf := neq1_nil
            by_cases hjk : j < k
            · obtain ⟨b0, b1, b4, b5, b6, b7⟩ := hLq.cells
              have q0 := hLq.row j hjk
              obtain ⟨s0, s1, s2⟩ := cell_of_strm (hLq.obj j hjk)
              have hj0 := (hLq.bel.cell (p := ⟨b, off + j, none⟩) hbw).trans (HC.out j hjk)
              have i0 : (0 : Int) ≤ (j : Int) := by omega
              have i1 : (j : Int) < (k : Int) := by omega
              have hneq := neq30_same
              clear hLq hSq
              go_wp2
              go_quiet (fail)
              go_wp2
              go_roundw
              case rel => exact ⟨j + 1, by omega, by go_num, HLQ.out.1.drewN _, HLQ.out.2⟩
              case measure => simp [intOf]; omega
            · obtain ⟨s0, s1, s2⟩ := cell_of_strm hSq
              clear hLq hSq
              go_wp2
              go_ret
              exact ⟨rfl, HLQ.out.1.bel⟩
      · have hkk' : kp = k := by omega
        subst hkk'
        clear ck ch hg2 hkk
        have hL2 := HL.out.alloc (by simp) (by simp; have := HSZ.out; omega) (strmObj sh)
        have hS2 : ((wr.alloc (budObj limit room used w.heap.size kp)).alloc (strmObj sh)).heap[wr.heap.size + 1]? = some (strmObj sh) := by
          have := heap_alloc_new (wr.alloc (budObj limit room used w.heap.size kp)) (strmObj sh)
          rwa [World.size_alloc] at this
        have hgr : Calls Yba.prog 9 #[.pointer (some ⟨wr.heap.size, 0, none⟩), .pointer (some ⟨wr.heap.size + 1, 0, none⟩), .int .i64 n] ((wr.alloc (budObj limit room used w.heap.size kp)).alloc (strmObj sh)) fun e W =>
            e = .returned (.bool (decide (wrap64 (used + n) ≤ limit))) ∧ Laid w W kp wr.heap.size H limit room used ∧ W.heap[wr.heap.size + 1]? = some (strmObj sh) :=
          (grow_other wr.heap.size w.heap.size kp limit room used n (w.heap.size + 1 + 0) (wr.heap.size + 1) _ (hL2.budget hm0) (by omega) (hL2.obj 0 hm0) hS2 hm).mono (by
            rintro e W ⟨rfl, kd, rfl⟩
            exact ⟨rfl, hL2.drewN kd, hS2⟩)
        clear hL2 hS2
        unfold budObj strmObj at hgr
        rcases dec2 (wrap64 (used + n)) limit with ⟨hd, hd2⟩ | ⟨hd, hd2⟩
        all_goals
          rw [hd] at hgr
          go_wp2_with fail
          refine hgr.mono ?_
          clear hgr
          rintro e W ⟨rfl, hLW, hSW⟩
          clear HL
          have HLW : Hid (Laid w W kp wr.heap.size H limit room used ∧ W.heap[wr.heap.size + 1]? = some (strmObj sh)) := ⟨hLW, hSW⟩
          obtain ⟨b0, b1, b4, b5, b6, b7⟩ := hLW.cells
          have h00 : W.cell? ⟨b, off, none⟩ = some (.int .i64 (H 0)) := (hLW.bel.cell (p := ⟨b, off, none⟩) hbw).trans (HC.out 0 hm0)
          clear hLW hSW
          generalize wr.heap.size = B at *
          go_wp2_with fail
          go_loopw [25] (fun i wq => ∃ j : Nat, j ≤ kp ∧ i = .int .i64 j ∧ Laid w wq kp B H limit room used ∧ wq.heap[B + 1]? = some (strmObj sh)) (fun i _ => kp - (intOf i).toNat)
          case atStart => exact ⟨0, Nat.zero_le _, rfl, HLW.out⟩
          case round =>
            clear HLW b0 b1 b4 b5 b6 b7 h00
            obtain ⟨j, hj, rfl, hLq, hSq⟩ := hrel
            have HLQ : Hid (Laid w _ kp B H limit room used ∧ _) := ⟨hLq, hSq⟩
            have hnf := neq1_nil
            by_cases hjk : j < kp
            · obtain ⟨b0, b1, b4, b5, b6, b7⟩ := hLq.cells
              have q0 := hLq.row j hjk
              obtain ⟨s0, s1, s2⟩ := cell_of_strm (hLq.obj j hjk)
              have hj0 := (hLq.bel.cell (p := ⟨b, off + j, none⟩) hbw).trans (HC.out j hjk)
              have i0 : (0 : Int) ≤ (j : Int) := by omega
              have i1 : (j : Int) < (kp : Int) := by omega
              have hneq := neq30_same
              clear hLq hSq
              go_wp2
              go_quiet (fail)
              go_wp2
              go_roundw
              case rel => exact ⟨j + 1, by omega, by go_num, HLQ.out.1.drewN _, HLQ.out.2⟩
              case measure => simp [intOf]; omega
            · obtain ⟨s0, s1, s2⟩ := cell_of_strm hSq
              clear hLq hSq
              go_wp2
              go_ret
              exact ⟨rfl, HLQ.out.1.bel⟩
end Go.Proofs.Ybulkdnus
