import Derived.Test.YbulkdnueBFill
namespace Go.Proofs.Ybulkdnue
open Go.RowKit
set_option linter.unusedVariables false

set_option maxRecDepth 100000 in
set_option maxHeartbeats 400000 in
theorem bwalk_big (o : Option Addr) (n cap : Nat) (m : Bool) (at' : Int) (w : World) (hn : 1048576 < n) (hm : n ≤ 9223372036854775807) :
    Calls Yba.prog 3 #[.slice o n cap, .bool m, .int .u64 at'] w fun e w' => e = .returned (.bool true) ∧ Below w.heap.size w w' := by
  go_enter Yba.func3, Yba.ntmps3
  go_wp2
  go_ret
  exact ⟨rfl, Below.refl _ _⟩

theorem scn_new0 (w : World) (v : Value) : Scn (w.alloc (.cells #[v, .int .i64 0] 30)) w.heap.size v 0 := scn_new w v 0

set_option maxRecDepth 100000 in
set_option maxHeartbeats 800000 in
theorem bwalk_nil_raw (at' : Int) (w : World) (ha0 : 0 ≤ at') (ha1 : at' ≤ 18446744073709551615) :
    Calls Yba.prog 3 #[.slice none 0 0, .bool false, .int .u64 at'] w fun e w' => e = .returned (.bool true) ∧ Below w.heap.size w w' := by
  have hq := eql_nil
  have hmk : ∀ w : World, (Instr.makeSlice 22 (.int .i64 0) (.int .i64 0)).run Yba.prog w = .ok (.slice (some ⟨w.heap.size, 0, none⟩) 0 0) (w.alloc (.cells (made5 0) 5)) := run_mk5 0 (by omega)
  go_enter Yba.func3, Yba.ntmps3
  go_wp2_with fail
  refine (clone_nil _).mono ?_
  rintro e w ⟨rfl, rfl⟩
  go_wp2_with fail
  refine (clone_nil _).mono ?_
  rintro e w ⟨rfl, rfl⟩
  clear hmk
  go_wp2_with fail
  refine (model_zero _ _ _).mono ?_
  rintro e w2 ⟨rfl, rfl⟩
  go_wp2_with fail
  refine (str_zero none 0 _ _ (scn_new0 _ _)).mono ?_
  rintro e w3 ⟨rfl, hs3, hb3⟩
  have HB3 : Hid (Below _ w2 w3) := ((Below.refl _ _).alloc (Nat.le_refl _) _).trans hb3
  clear hb3
  obtain ⟨c0, c1', f1⟩ := hs3
  have c1 : w3.cell? ⟨w2.heap.size, 1, none⟩ = some (.int .i64 0) := c1'
  clear c1' f1
  go_wp2_with fail
  go_quiet (fail)
  go_wp2_with fail
  refine (equal_same _ _ ByteArray.empty _ (conv_zero _ _ _) (conv_zero _ _ _)).mono ?_
  rintro e w4 ⟨rfl, rfl⟩
  go_wp2_with fail
  refine (equal_same _ _ ByteArray.empty _ (conv_zero _ _ _) (conv_zero _ _ _)).mono ?_
  rintro e w5 ⟨rfl, rfl⟩
  go_wp2_with fail
  go_ret
  exact ⟨rfl, below_drewN HB3.out _⟩

set_option maxRecDepth 100000 in
set_option maxHeartbeats 800000 in
theorem bwalk_emp_raw (a : Addr) (cap : Nat) (at' : Int) (w : World) (ha0 : 0 ≤ at') (ha1 : at' ≤ 18446744073709551615) :
    Calls Yba.prog 3 #[.slice (some a) 0 cap, .bool false, .int .u64 at'] w fun e w' => e = .returned (.bool true) ∧ Below w.heap.size w w' := by
  have hq := eql_nil
  have hmk : ∀ w : World, (Instr.makeSlice 22 (.int .i64 0) (.int .i64 0)).run Yba.prog w = .ok (.slice (some ⟨w.heap.size, 0, none⟩) 0 0) (w.alloc (.cells (made5 0) 5)) := run_mk5 0 (by omega)
  go_enter Yba.func3, Yba.ntmps3
  go_wp2_with fail
  refine (clone_empty _ _ _).mono ?_
  rintro e w1 ⟨⟨g1, c1, rfl⟩, hb1⟩
  have HB1 : Hid (Below _ w w1) := hb1
  clear hb1
  go_wp2_with fail
  refine (clone_empty _ _ _).mono ?_
  rintro e w2 ⟨⟨g2, c2, rfl⟩, hb2⟩
  have HB2 : Hid (Below _ w1 w2) := hb2
  clear hb2
  clear hmk
  go_wp2_with fail
  refine (model_zero _ _ _).mono ?_
  rintro e w2 ⟨rfl, rfl⟩
  go_wp2_with fail
  refine (str_zero (some a) cap _ _ (scn_new0 _ _)).mono ?_
  rintro e w3 ⟨rfl, hs3, hb3⟩
  have HB3 : Hid (Below _ w2 w3) := ((Below.refl _ _).alloc (Nat.le_refl _) _).trans hb3
  clear hb3
  obtain ⟨c0, c1', f1⟩ := hs3
  have c1 : w3.cell? ⟨w2.heap.size, 1, none⟩ = some (.int .i64 0) := c1'
  clear c1' f1
  go_wp2_with fail
  go_quiet (fail)
  go_wp2_with fail
  refine (equal_same _ _ ByteArray.empty _ (conv_zero _ _ _) (conv_zero _ _ _)).mono ?_
  rintro e w4 ⟨rfl, rfl⟩
  go_wp2_with fail
  refine (equal_same _ _ ByteArray.empty _ (conv_zero _ _ _) (conv_zero _ _ _)).mono ?_
  rintro e w5 ⟨rfl, rfl⟩
  go_wp2_with fail
  go_ret
  exact ⟨rfl, below_drewN ((HB1.out.trans (HB2.out.mono HB1.out.size)).trans (HB3.out.mono (Nat.le_trans HB1.out.size HB2.out.size))) _⟩

set_option maxRecDepth 100000 in
set_option maxHeartbeats 800000 in
theorem bwalk_nil_map (at' : Int) (w : World) (ha0 : 0 ≤ at') (ha1 : at' ≤ 18446744073709551615) :
    Calls Yba.prog 3 #[.slice none 0 0, .bool true, .int .u64 at'] w fun e w' => e = .returned (.bool true) ∧ Below w.heap.size w w' := by
  have hq := eql_nil
  have hmk : ∀ w : World, (Instr.makeSlice 22 (.int .i64 0) (.int .i64 0)).run Yba.prog w = .ok (.slice (some ⟨w.heap.size, 0, none⟩) 0 0) (w.alloc (.cells (made5 0) 5)) := run_mk5 0 (by omega)
  go_enter Yba.func3, Yba.ntmps3
  go_wp2_with fail
  refine (clone_nil _).mono ?_
  rintro e w ⟨rfl, rfl⟩
  go_wp2_with (go_at_call 6; go_in)
  refine wp_loop_rounds 1 ?_
  rw [rounds_succ]
  go_wp2_with fail
  refine (clone_empty _ _ _).mono ?_
  rintro e w2 ⟨⟨g2, c2, rfl⟩, hb2⟩
  have HB2 : Hid (Below w.heap.size w w2) := ((Below.refl _ _).alloc (Nat.le_refl _) _).trans (hb2.mono (by simp))
  clear hb2
  clear hmk
  go_wp2_with fail
  refine (model_zero _ _ _).mono ?_
  rintro e w2 ⟨rfl, rfl⟩
  go_wp2_with fail
  refine (str_zero (some ⟨w.heap.size, 0, none⟩) 0 _ _ (scn_new0 _ _)).mono ?_
  rintro e w3 ⟨rfl, hs3, hb3⟩
  have HB3 : Hid (Below _ w2 w3) := ((Below.refl _ _).alloc (Nat.le_refl _) _).trans hb3
  clear hb3
  obtain ⟨c0, c1', f1⟩ := hs3
  have c1 : w3.cell? ⟨w2.heap.size, 1, none⟩ = some (.int .i64 0) := c1'
  clear c1' f1
  go_wp2_with fail
  go_quiet (fail)
  go_wp2_with fail
  refine (equal_same _ _ ByteArray.empty _ (conv_zero _ _ _) (conv_zero _ _ _)).mono ?_
  rintro e w4 ⟨rfl, rfl⟩
  go_wp2_with fail
  refine (equal_same _ _ ByteArray.empty _ (conv_zero _ _ _) (conv_zero _ _ _)).mono ?_
  rintro e w5 ⟨rfl, rfl⟩
  go_wp2_with fail
  go_ret
  exact ⟨rfl, below_drewN (HB2.out.trans (HB3.out.mono HB2.out.size)) _⟩

set_option maxRecDepth 100000 in
set_option maxHeartbeats 800000 in
theorem bwalk_emp_map (a : Addr) (cap : Nat) (at' : Int) (w : World) (ha0 : 0 ≤ at') (ha1 : at' ≤ 18446744073709551615) :
    Calls Yba.prog 3 #[.slice (some a) 0 cap, .bool true, .int .u64 at'] w fun e w' => e = .returned (.bool true) ∧ Below w.heap.size w w' := by
  have hq := eql_nil
  have hmk : ∀ w : World, (Instr.makeSlice 22 (.int .i64 0) (.int .i64 0)).run Yba.prog w = .ok (.slice (some ⟨w.heap.size, 0, none⟩) 0 0) (w.alloc (.cells (made5 0) 5)) := run_mk5 0 (by omega)
  go_enter Yba.func3, Yba.ntmps3
  go_wp2_with fail
  refine (clone_empty _ _ _).mono ?_
  rintro e w1 ⟨⟨g1, c1, rfl⟩, hb1⟩
  have HB1 : Hid (Below _ w w1) := hb1
  clear hb1
  go_wp2_with (go_at_call 6; go_in)
  refine wp_loop_rounds 1 ?_
  rw [rounds_succ]
  go_wp2_with fail
  refine (clone_empty _ _ _).mono ?_
  rintro e w2 ⟨⟨g2, c2, rfl⟩, hb2⟩
  have HB2 : Hid (Below w1.heap.size w1 w2) := ((Below.refl _ _).alloc (Nat.le_refl _) _).trans (hb2.mono (by simp))
  clear hb2
  clear hmk
  go_wp2_with fail
  refine (model_zero _ _ _).mono ?_
  rintro e w2 ⟨rfl, rfl⟩
  go_wp2_with fail
  refine (str_zero (some ⟨w1.heap.size, 0, none⟩) 0 _ _ (scn_new0 _ _)).mono ?_
  rintro e w3 ⟨rfl, hs3, hb3⟩
  have HB3 : Hid (Below _ w2 w3) := ((Below.refl _ _).alloc (Nat.le_refl _) _).trans hb3
  clear hb3
  obtain ⟨c0, c1', f1⟩ := hs3
  have c1 : w3.cell? ⟨w2.heap.size, 1, none⟩ = some (.int .i64 0) := c1'
  clear c1' f1
  go_wp2_with fail
  go_quiet (fail)
  go_wp2_with fail
  refine (equal_same _ _ ByteArray.empty _ (conv_zero _ _ _) (conv_zero _ _ _)).mono ?_
  rintro e w4 ⟨rfl, rfl⟩
  go_wp2_with fail
  refine (equal_same _ _ ByteArray.empty _ (conv_zero _ _ _) (conv_zero _ _ _)).mono ?_
  rintro e w5 ⟨rfl, rfl⟩
  go_wp2_with fail
  go_ret
  exact ⟨rfl, below_drewN ((HB1.out.trans (HB2.out.mono HB1.out.size)).trans (HB3.out.mono (Nat.le_trans HB1.out.size HB2.out.size))) _⟩

end Go.Proofs.Ybulkdnue
