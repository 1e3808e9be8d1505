import Derived.Test.YbulkdnusCClose
namespace Go.Proofs.Ybulkdnus.C
open Go.RowKit
open Go.ChangeMaps (setBlock)
set_option linter.unusedVariables false
set_option maxRecDepth 100000

theorem ents_size (tp : TypeId) (base n : Nat) : (ents tp base n).size = n := by simp [ents]

theorem len_map {mt ti tp te : TypeId} (T : Ties mt ti tp te) {w : World} {M base n : Nat} (hm : w.heap[M]? = some (.map (ents tp base n) n)) (hn : n ≤ 4096) (ty : TypeId) :
    (Builtin.len_ #[mt] ty #[.map (some M)]).run Yba.prog w = .ok (.int .i64 n) w := by
  obtain ⟨e, he⟩ := T.map
  simp [Builtin.len_, run_underlying he, MapKept.run_getObj_map hm, goInt, Result.andThen, ents_size]

set_option maxHeartbeats 8000000 in
theorem check_maps (w : World) (A cb pb : Nat) (hc fail : Bool) (L C S1 n1 S2 n2 : Nat) (cnt : Int) (hn1 : n1 ≤ 4096) (hn2 : n2 ≤ 4096) (h : Whole w A cb pb 0 true hc fail (some L) (some C) S1 n1 S2 n2 cnt 1 1) :
    Calls Yba.prog 12 #[.pointer (some ⟨A, 0, none⟩), .slice (some ⟨S1, 0, none⟩) n1 n1, .slice (some ⟨S2, 0, none⟩) n2 n2, .bool false, .int .i64 1] w fun e w' => e = .returned (.bool true) ∧ Below pb w w' := by
  have hl1 := len_map tiesL (h.lis.map L rfl) hn1
  have hl2 := len_map tiesC (h.con.map C rfl) hn2
  obtain ⟨_, _, _, _, c5, c6, _, _⟩ := acc_cells h.acc
  have HW : Hid (Whole w A cb pb 0 true hc fail (some L) (some C) S1 n1 S2 n2 cnt 1 1) := h
  clear h
  go_enter Yba.func12, Yba.ntmps12
  go_wp2
  clear c5 c6 hl1 hl2
  go_loopg [11] n1 (fun g i wq => ∃ k : Nat, k ≤ n1 ∧ g = n1 - k ∧ i = .int .i64 k ∧ Below pb w wq ∧ Whole wq A cb pb 0 true hc fail (some L) (some C) S1 n1 S2 n2 cnt 1 1)
  case atStart => exact ⟨0, Nat.zero_le _, rfl, rfl, Below.refl _ _, HW.out⟩
  case round =>
    clear HW
    obtain ⟨k, hk, rfl, rfl, hb, hW⟩ := hrel
    have HB : Hid (Below pb w wr) := hb
    have HW : Hid (Whole wr A cb pb 0 true hc fail (some L) (some C) S1 n1 S2 n2 cnt 1 1) := hW
    clear hb hW
    obtain ⟨W1, rfl⟩ : ∃ W1, W1 = wr := ⟨_, rfl⟩
    obtain ⟨_, _, _, _, c5, _, _, _⟩ := acc_cells HW.out.acc
    by_cases hlt : k < n1
    · have cr := HW.out.lis.row k hlt
      unfold ptr at cr
      have co := (item_cells (HW.out.lis.obj k hlt)).1
      have hget : (Instr.lookup 60 (.map (some L)) (.iface 74 (.pointer (some ⟨S1 + 1 + k, 0, none⟩))) false).run Yba.prog W1.drew = .ok (.bool true) W1.drew := get (w := W1.drew) tiesL hlt (HW.out.lis.map L rfl) fun i hi => ⟨_, _, HW.out.lis.obj i hi⟩
      have i0 : (0 : Int) ≤ (k : Int) := by omega
      have i1 : (k : Int) < (n1 : Int) := by omega
      go_wp2
      go_still (by kernel_rfl)
      clear c5 cr co hget
      go_wp2
      go_roundg (n1 - (k + 1))
      case measure => omega
      case rel => exact ⟨k + 1, by omega, rfl, by go_num, HB.out.drew, HW.out.drew⟩
    · have hkn : k = n1 := by omega
      subst hkn
      clear c5
      go_wp2
      go_loopg [12] n2 (fun g i wq => ∃ m : Nat, m ≤ n2 ∧ g = n2 - m ∧ i = .int .i64 m ∧ Below pb w wq ∧ Whole wq A cb pb 0 true hc fail (some L) (some C) S1 k S2 n2 cnt 1 1)
      case atStart => exact ⟨0, Nat.zero_le _, rfl, rfl, HB.out, HW.out⟩
      case round =>
        clear HW HB
        obtain ⟨m, hm, rfl, rfl, hb, hW⟩ := hrel
        have HB : Hid (Below pb w wr) := hb
        have HW : Hid (Whole wr A cb pb 0 true hc fail (some L) (some C) S1 k S2 n2 cnt 1 1) := hW
        clear hb hW
        obtain ⟨W2, rfl⟩ : ∃ W2, W2 = wr := ⟨_, rfl⟩
        by_cases hlt : m < n2
        · obtain ⟨_, _, _, _, _, c6, _, _⟩ := acc_cells HW.out.acc
          have cr := HW.out.con.row m hlt
          unfold ptr at cr
          have co := (item_cells (HW.out.con.obj m hlt)).1
          have hget : (Instr.lookup 61 (.map (some C)) (.iface 77 (.pointer (some ⟨S2 + 1 + m, 0, none⟩))) false).run Yba.prog W2.drew = .ok (.bool true) W2.drew := get (w := W2.drew) tiesC hlt (HW.out.con.map C rfl) fun i hi => ⟨_, _, HW.out.con.obj i hi⟩
          have i0 : (0 : Int) ≤ (m : Int) := by omega
          have i1 : (m : Int) < (n2 : Int) := by omega
          go_wp2
          go_still (by kernel_rfl)
          clear c6 cr co hget
          go_wp2
          go_roundg (n2 - (m + 1))
          case measure => omega
          case rel => exact ⟨m + 1, by omega, rfl, by go_num, HB.out.drew, HW.out.drew⟩
        · have hkn : m = n2 := by omega
          subst hkn
          have htry := try_whole HW.out
          go_wp2_with (first | (go_at_call 18; refine htry.mono ?_; clear htry; rintro e W4 ⟨rfl, hb4, hW4⟩; have hul := unlock_whole hW4; clear hW4) | (go_at_call 16; refine hul.mono ?_; clear hul; rintro e W5 ⟨rfl, hb5, hW5⟩))
          go_ret
          exact ⟨rfl, (HB.out.trans hb4).trans hb5⟩

theorem nil_neq60 (w : World) : (binOp .neq 60 (.map none) (.map none)).run Yba.prog w = .ok (.bool false) w := by kernel_rfl
theorem nil_neq61 (w : World) : (binOp .neq 61 (.map none) (.map none)).run Yba.prog w = .ok (.bool false) w := by kernel_rfl

set_option maxHeartbeats 8000000 in
theorem check_nil (w : World) (A cb pb : Nat) (hc fail : Bool) (S1 S2 : Nat) (cnt : Int) (h : Whole w A cb pb 0 true hc fail none none S1 0 S2 0 cnt 1 1) :
    Calls Yba.prog 12 #[.pointer (some ⟨A, 0, none⟩), .slice (some ⟨S1, 0, none⟩) 0 0, .slice (some ⟨S2, 0, none⟩) 0 0, .bool true, .int .i64 1] w fun e w' => e = .returned (.bool true) ∧ Below pb w w' := by
  obtain ⟨_, _, _, _, c5, c6, _, _⟩ := acc_cells h.acc
  have hq1 := nil_neq60
  have hq2 := nil_neq61
  have htry := try_whole h
  clear h
  go_enter Yba.func12, Yba.ntmps12
  go_wp2
  refine wp_loop_rounds 1 ?_
  show Code.wp _ _ _ _ _
  go_wp2
  refine wp_loop_rounds 1 ?_
  show Code.wp _ _ _ _ _
  go_wp2_with (first | (go_at_call 18; refine htry.mono ?_; clear htry; rintro e W4 ⟨rfl, hb4, hW4⟩; have hul := unlock_whole hW4; clear hW4) | (go_at_call 16; refine hul.mono ?_; clear hul; rintro e W5 ⟨rfl, hb5, hW5⟩))
  go_ret
  exact ⟨rfl, hb4.trans hb5⟩
end Go.Proofs.Ybulkdnus.C
