import Derived.Test.YbulkdnusBMain
namespace Go.Proofs.Ybulkdnus
open Go.RowKit

set_option maxRecDepth 100000 in
set_option maxHeartbeats 400000 in
theorem walk_big (limit room used n sh pick : Int) (o : Option Addr) (m cap : Nat) (w : World) (hm : 1048576 < m) (hx : m ≤ 9223372036854775807) :
    Calls Yba.prog 4 #[.int .i64 limit, .int .i64 room, .int .i64 used, .int .i64 n, .slice o m cap, .int .u8 pick, .int .i64 sh] w fun e w' => e = .returned (.bool true) ∧ Below w.heap.size w w' := by
  go_enter Yba.func4, Yba.ntmps4
  go_wp2
  go_ret
  exact ⟨rfl, Below.refl _ _⟩

theorem new_at (w : World) (o : Obj) {k : Nat} (h : k = w.heap.size) : (w.alloc o).heap[k]? = some o := by rw [h]; exact heap_alloc_new w o
theorem blocks4 (w : World) (o0 o1 o2 o3 : Obj) : ((((w.alloc o0).alloc o1).alloc o2).alloc o3).heap[w.heap.size]? = some o0 ∧ ((((w.alloc o0).alloc o1).alloc o2).alloc o3).heap[w.heap.size + 1]? = some o1 ∧
    ((((w.alloc o0).alloc o1).alloc o2).alloc o3).heap[w.heap.size + 1 + 1]? = some o2 ∧ ((((w.alloc o0).alloc o1).alloc o2).alloc o3).heap[w.heap.size + 1 + 1 + 1]? = some o3 := by
  exact ⟨by rw [Below.heap_alloc _ _ _ (by simp; try omega), Below.heap_alloc _ _ _ (by simp; try omega), Below.heap_alloc _ _ _ (by simp; try omega), new_at _ _ (by simp; try omega)],
    by rw [Below.heap_alloc _ _ _ (by simp; try omega), Below.heap_alloc _ _ _ (by simp; try omega), new_at _ _ (by simp; try omega)],
    by rw [Below.heap_alloc _ _ _ (by simp; try omega), new_at _ _ (by simp; try omega)],
    by rw [new_at _ _ (by simp; try omega)]⟩
theorem blocks5 (w : World) (o0 o1 o2 o3 o4 : Obj) : (((((w.alloc o0).alloc o1).alloc o2).alloc o3).alloc o4).heap[w.heap.size]? = some o0 ∧ (((((w.alloc o0).alloc o1).alloc o2).alloc o3).alloc o4).heap[w.heap.size + 1]? = some o1 ∧
    (((((w.alloc o0).alloc o1).alloc o2).alloc o3).alloc o4).heap[w.heap.size + 1 + 1]? = some o2 ∧ (((((w.alloc o0).alloc o1).alloc o2).alloc o3).alloc o4).heap[w.heap.size + 1 + 1 + 1]? = some o3 ∧ (((((w.alloc o0).alloc o1).alloc o2).alloc o3).alloc o4).heap[w.heap.size + 1 + 1 + 1 + 1]? = some o4 := by
  exact ⟨by rw [Below.heap_alloc _ _ _ (by simp; try omega), Below.heap_alloc _ _ _ (by simp; try omega), Below.heap_alloc _ _ _ (by simp; try omega), Below.heap_alloc _ _ _ (by simp; try omega), new_at _ _ (by simp; try omega)],
    by rw [Below.heap_alloc _ _ _ (by simp; try omega), Below.heap_alloc _ _ _ (by simp; try omega), Below.heap_alloc _ _ _ (by simp; try omega), new_at _ _ (by simp; try omega)],
    by rw [Below.heap_alloc _ _ _ (by simp; try omega), Below.heap_alloc _ _ _ (by simp; try omega), new_at _ _ (by simp; try omega)],
    by rw [Below.heap_alloc _ _ _ (by simp; try omega), new_at _ _ (by simp; try omega)],
    by rw [new_at _ _ (by simp; try omega)]⟩

set_option maxRecDepth 100000 in
set_option maxHeartbeats 800000 in
theorem walk_zero (limit room used n sh pick : Int) (o : Option Addr) (cap : Nat) (w : World) (hp0 : 0 ≤ pick) (hp1 : pick ≤ 255) :
    Calls Yba.prog 4 #[.int .i64 limit, .int .i64 room, .int .i64 used, .int .i64 n, .slice o 0 cap, .int .u8 pick, .int .i64 sh] w fun e w' => e = .returned (.bool true) ∧ Below w.heap.size w w' := by
  have hmk : ∀ w : World, (Instr.makeSlice 29 (.int .i64 1) (.int .i64 1)).run Yba.prog w = .ok (.slice (some ⟨w.heap.size, 0, none⟩) 1 1) (w.alloc (.cells (madeP 1) 30)) := run_mkP 1 (by omega)
  rw [show madeP 1 = #[.pointer none] from by kernel_rfl] at hmk
  have hnf := neq1_nil
  have hz1 : ∀ o : Obj, Below w.heap.size w (w.alloc o) := fun o => (Below.refl _ _).alloc (Nat.le_refl _) _
  rcases (show pick % 2 = 0 ∨ pick % 2 = 1 from by omega) with hpk | hpk
  · have hgr : Calls Yba.prog 9 #[.pointer (some ⟨w.heap.size + 1 + 1 + 1, 0, none⟩), .pointer (some ⟨w.heap.size + 1 + 1, 0, none⟩), .int .i64 n] ((((w.alloc (.cells #[.int .i64 used] 3)).alloc (.cells #[.pointer (some ⟨w.heap.size + 1 + 1, 0, none⟩)] 30)).alloc (.cells #[.int .i64 used, .nilFunc, .bool false] 32)).alloc (.cells #[.int .i64 limit, .int .i64 room, .int .i32 0, .int .u32 0, .int .i64 used, .slice none 0 0, .slice (some ⟨w.heap.size + 1, 0, none⟩) 1 1, .slice none 0 0] 44)) fun e W =>
        e = .returned (.bool (decide (wrap64 (used + n) ≤ room) || (used == used))) ∧ W.cell? ⟨w.heap.size + 1 + 1 + 1, 0, none⟩ = some (.int .i64 limit) ∧ W.cell? ⟨w.heap.size + 1 + 1 + 1, 1, none⟩ = some (.int .i64 room) ∧ W.cell? ⟨w.heap.size + 1 + 1 + 1, 4, none⟩ = some (.int .i64 used) ∧ W.cell? ⟨w.heap.size + 1 + 1 + 1, 5, none⟩ = some (.slice none 0 0) ∧
        W.cell? ⟨w.heap.size + 1 + 1 + 1, 6, none⟩ = some (.slice (some ⟨w.heap.size + 1, 0, none⟩) 1 1) ∧ W.cell? ⟨w.heap.size + 1 + 1 + 1, 7, none⟩ = some (.slice none 0 0) ∧ W.cell? ⟨w.heap.size + 1, 0, none⟩ = some (.pointer (some ⟨w.heap.size + 1 + 1, 0, none⟩)) ∧ W.cell? ⟨w.heap.size, 0, none⟩ = some (.int .i64 used) ∧
        W.cell? ⟨w.heap.size + 1 + 1, 0, none⟩ = some (.int .i64 used) ∧ W.cell? ⟨w.heap.size + 1 + 1, 1, none⟩ = some .nilFunc ∧ W.cell? ⟨w.heap.size + 1 + 1, 2, none⟩ = some (.bool false) ∧
        W.cell? ⟨w.heap.size + 1 + 1, 0, none⟩ = some (.int .i64 used) ∧ W.cell? ⟨w.heap.size + 1 + 1, 1, none⟩ = some .nilFunc ∧ W.cell? ⟨w.heap.size + 1 + 1, 2, none⟩ = some (.bool false) ∧ Below w.heap.size w W := by
      obtain ⟨q0, q1, q2, q3⟩ := blocks4 w (.cells #[.int .i64 used] 3) (.cells #[.pointer (some ⟨w.heap.size + 1 + 1, 0, none⟩)] 30) (.cells #[.int .i64 used, .nilFunc, .bool false] 32) (.cells #[.int .i64 limit, .int .i64 room, .int .i32 0, .int .u32 0, .int .i64 used, .slice none 0 0, .slice (some ⟨w.heap.size + 1, 0, none⟩) 1 1, .slice none 0 0] 44)
      refine (grow_first (w.heap.size + 1 + 1 + 1) (w.heap.size + 1) 1 limit room used used n (w.heap.size + 1 + 1) _ ⟨cell_of_row _ _ _ _ _ _ q3, cell_of_row _ _ _ _ _ _ q3, cell_of_row _ _ _ _ _ _ q3, cell_of_row _ _ _ _ _ _ q3, cell_of_row _ _ _ _ _ _ q1, by omega⟩ (cell_of_row _ _ _ _ _ _ q2) (by omega)).mono ?_
      rintro e W ⟨rfl, kd, rfl⟩
      refine ⟨rfl, cell_of_row _ _ _ _ _ _ q3, cell_of_row _ _ _ _ _ _ q3, cell_of_row _ _ _ _ _ _ q3, cell_of_row _ _ _ _ _ _ q3, cell_of_row _ _ _ _ _ _ q3, cell_of_row _ _ _ _ _ _ q3, cell_of_row _ _ _ _ _ _ q1, cell_of_row _ _ _ _ _ _ q0, cell_of_row _ _ _ _ _ _ q2, cell_of_row _ _ _ _ _ _ q2, cell_of_row _ _ _ _ _ _ q2, cell_of_row _ _ _ _ _ _ q2, cell_of_row _ _ _ _ _ _ q2, cell_of_row _ _ _ _ _ _ q2, below_drewN ?_ _⟩
      exact ((((hz1 _).alloc (by simp) _).alloc (by simp; omega) _).alloc (by simp; omega) _)
    simp only [beq_self_eq_true, Bool.or_true] at hgr
    clear hz1
    rcases dec2 (wrap64 (used + n)) room with ⟨hd, hd2⟩ | ⟨hd, hd2⟩
    all_goals
      go_enter Yba.func4, Yba.ntmps4
      go_wp2
      refine wp_loop_rounds 2 ?_
      rw [rounds_succ]
      go_wp2
      rw [rounds_succ]
      clear hmk
      go_wp2_with fail
      refine hgr.mono ?_
      clear hgr
      rintro e W ⟨rfl, b0, b1, b4, b5, b6, b7, p0, h0, s0, s1, s2, t0, t1, t2, hbel⟩
      have HBL : Hid (Below w.heap.size w W) := hbel
      clear hbel
      have hnf := neq1_nil
      have hneq := neq30_same
      go_wp2_with fail
      refine wp_loop_rounds 2 ?_
      rw [rounds_succ]
      go_wp2_with fail
      go_quiet (fail)
      go_wp2_with fail
      rw [rounds_succ]
      go_wp2_with fail
      go_ret
      exact ⟨rfl, below_drewN HBL.out _⟩
  · have hgr : Calls Yba.prog 9 #[.pointer (some ⟨w.heap.size + 1 + 1 + 1, 0, none⟩), .pointer (some ⟨w.heap.size + 1 + 1 + 1 + 1, 0, none⟩), .int .i64 n] (((((w.alloc (.cells #[.int .i64 used] 3)).alloc (.cells #[.pointer (some ⟨w.heap.size + 1 + 1, 0, none⟩)] 30)).alloc (.cells #[.int .i64 used, .nilFunc, .bool false] 32)).alloc (.cells #[.int .i64 limit, .int .i64 room, .int .i32 0, .int .u32 0, .int .i64 used, .slice none 0 0, .slice (some ⟨w.heap.size + 1, 0, none⟩) 1 1, .slice none 0 0] 44)).alloc (.cells #[.int .i64 sh, .nilFunc, .bool false] 32)) fun e W =>
        e = .returned (.bool (decide (wrap64 (used + n) ≤ limit))) ∧ W.cell? ⟨w.heap.size + 1 + 1 + 1, 0, none⟩ = some (.int .i64 limit) ∧ W.cell? ⟨w.heap.size + 1 + 1 + 1, 1, none⟩ = some (.int .i64 room) ∧ W.cell? ⟨w.heap.size + 1 + 1 + 1, 4, none⟩ = some (.int .i64 used) ∧ W.cell? ⟨w.heap.size + 1 + 1 + 1, 5, none⟩ = some (.slice none 0 0) ∧
        W.cell? ⟨w.heap.size + 1 + 1 + 1, 6, none⟩ = some (.slice (some ⟨w.heap.size + 1, 0, none⟩) 1 1) ∧ W.cell? ⟨w.heap.size + 1 + 1 + 1, 7, none⟩ = some (.slice none 0 0) ∧ W.cell? ⟨w.heap.size + 1, 0, none⟩ = some (.pointer (some ⟨w.heap.size + 1 + 1, 0, none⟩)) ∧ W.cell? ⟨w.heap.size, 0, none⟩ = some (.int .i64 used) ∧
        W.cell? ⟨w.heap.size + 1 + 1, 0, none⟩ = some (.int .i64 used) ∧ W.cell? ⟨w.heap.size + 1 + 1, 1, none⟩ = some .nilFunc ∧ W.cell? ⟨w.heap.size + 1 + 1, 2, none⟩ = some (.bool false) ∧
        W.cell? ⟨w.heap.size + 1 + 1 + 1 + 1, 0, none⟩ = some (.int .i64 sh) ∧ W.cell? ⟨w.heap.size + 1 + 1 + 1 + 1, 1, none⟩ = some .nilFunc ∧ W.cell? ⟨w.heap.size + 1 + 1 + 1 + 1, 2, none⟩ = some (.bool false) ∧ Below w.heap.size w W := by
      obtain ⟨q0, q1, q2, q3, q4⟩ := blocks5 w (.cells #[.int .i64 used] 3) (.cells #[.pointer (some ⟨w.heap.size + 1 + 1, 0, none⟩)] 30) (.cells #[.int .i64 used, .nilFunc, .bool false] 32) (.cells #[.int .i64 limit, .int .i64 room, .int .i32 0, .int .u32 0, .int .i64 used, .slice none 0 0, .slice (some ⟨w.heap.size + 1, 0, none⟩) 1 1, .slice none 0 0] 44) (.cells #[.int .i64 sh, .nilFunc, .bool false] 32)
      refine (grow_other (w.heap.size + 1 + 1 + 1) (w.heap.size + 1) 1 limit room used n (w.heap.size + 1 + 1) (w.heap.size + 1 + 1 + 1 + 1) _ ⟨cell_of_row _ _ _ _ _ _ q3, cell_of_row _ _ _ _ _ _ q3, cell_of_row _ _ _ _ _ _ q3, cell_of_row _ _ _ _ _ _ q3, cell_of_row _ _ _ _ _ _ q1, by omega⟩ (by omega) (ca := #[.int .i64 used, .nilFunc, .bool false]) (cb := #[.int .i64 sh, .nilFunc, .bool false]) (ta := 32) (tb := 32) ?ha ?hb (by omega)).mono ?_
      case ha => exact q2
      case hb => exact q4
      rintro e W ⟨rfl, kd, rfl⟩
      refine ⟨rfl, cell_of_row _ _ _ _ _ _ q3, cell_of_row _ _ _ _ _ _ q3, cell_of_row _ _ _ _ _ _ q3, cell_of_row _ _ _ _ _ _ q3, cell_of_row _ _ _ _ _ _ q3, cell_of_row _ _ _ _ _ _ q3, cell_of_row _ _ _ _ _ _ q1, cell_of_row _ _ _ _ _ _ q0, cell_of_row _ _ _ _ _ _ q2, cell_of_row _ _ _ _ _ _ q2, cell_of_row _ _ _ _ _ _ q2, cell_of_row _ _ _ _ _ _ q4, cell_of_row _ _ _ _ _ _ q4, cell_of_row _ _ _ _ _ _ q4, below_drewN ?_ _⟩
      exact (((((hz1 _).alloc (by simp) _).alloc (by simp; omega) _).alloc (by simp; omega) _).alloc (by simp; omega) _)
    clear hz1
    rcases dec2 (wrap64 (used + n)) limit with ⟨hd, hd2⟩ | ⟨hd, hd2⟩
    all_goals
      rw [hd] at hgr
      go_enter Yba.func4, Yba.ntmps4
      go_wp2
      refine wp_loop_rounds 2 ?_
      rw [rounds_succ]
      go_wp2
      rw [rounds_succ]
      clear hmk
      go_wp2_with fail
      refine hgr.mono ?_
      clear hgr
      rintro e W ⟨rfl, b0, b1, b4, b5, b6, b7, p0, h0, s0, s1, s2, t0, t1, t2, hbel⟩
      have HBL : Hid (Below w.heap.size w W) := hbel
      clear hbel
      have hnf := neq1_nil
      have hneq := neq30_same
      go_wp2_with fail
      refine wp_loop_rounds 2 ?_
      rw [rounds_succ]
      go_wp2_with fail
      go_quiet (fail)
      go_wp2_with fail
      rw [rounds_succ]
      go_wp2_with fail
      go_ret
      exact ⟨rfl, below_drewN HBL.out _⟩
end Go.Proofs.Ybulkdnus
