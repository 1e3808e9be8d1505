import Derived.Test.YbulkdnusChecked
import Derived.WalkKit
import Derived.Tactics2
import Derived.Laws.LoneSync
import Derived.Laws.Pointers
import Derived.KernelRfl
import Derived.Below
import Derived.LoopN
namespace Go.Proofs.Ybulkdnus.C
open Go.RowKit
set_option linter.unusedVariables false
set_option maxRecDepth 100000

theorem disable (w : World) : (callFunc 21 #[]).run Yba.prog w = .ok (.value (.tuple #[])) w := run_call_mark0 Yba.func21 (by kernel_rfl) (by kernel_rfl) (by kernel_rfl) .disable (by kernel_rfl) w
theorem enable (w : World) : (callFunc 23 #[]).run Yba.prog w = .ok (.value (.tuple #[])) w := run_call_mark0 Yba.func23 (by kernel_rfl) (by kernel_rfl) (by kernel_rfl) .enable (by kernel_rfl) w
theorem acquire (a : Addr) (w : World) : (callFunc 24 #[.pointer (some a)]).run Yba.prog w = .ok (.value (.tuple #[])) w := run_call_marked Yba.func24 (by kernel_rfl) (by kernel_rfl) (by kernel_rfl) .acquire (by kernel_rfl) a w
theorem releaseMerge (a : Addr) (w : World) : (callFunc 34 #[.pointer (some a)]).run Yba.prog w = .ok (.value (.tuple #[])) w := run_call_marked Yba.func34 (by kernel_rfl) (by kernel_rfl) (by kernel_rfl) .releaseMerge (by kernel_rfl) a w
theorem room38 : (Yba.prog.info? 38).map (fun i => decide (i.size = 0)) = some false := by kernel_rfl
theorem room68 : (Yba.prog.info? 68).map (fun i => decide (i.size = 0)) = some false := by kernel_rfl

set_option maxHeartbeats 800000 in
theorem ilock_free (a : Addr) (w : World) (hc : w.cell? a = some (.int .i32 0)) (hz : w.frozen? a = false) :
    Calls Yba.prog 19 #[.pointer (some a)] w fun e w' => e = .returned (.tuple #[]) ∧ w' = w.setCell a (.int .i32 1) := by
  have hd := disable
  have he := enable
  have hq := acquire
  have hc2 := World.cell?_setCell_same w a (.int .i32 1) hc
  have hcv := run_convert_to_unsafe (P := Yba.prog) (src := 95) (dst := 89) Yba.underlying95 Yba.underlying89 room38 hc2
  have hcas := run_call_cas_hit (P := Yba.prog) Yba.func32 (by kernel_rfl) (by kernel_rfl) (by kernel_rfl) .i32 (by kernel_rfl) (y := 1) hc hz
  go_enter Yba.func19, Yba.ntmps19
  go_wp2
  refine bodyPost_ret (results_none rfl _ _ _) rfl ?_
  exact ⟨rfl, rfl⟩

set_option maxHeartbeats 800000 in
theorem lock_free (a : Addr) (w : World) (hc : w.cell? a = some (.int .i32 0)) (hz : w.frozen? a = false) :
    Calls Yba.prog 15 #[.pointer (some a)] w fun e w' => e = .returned (.tuple #[]) ∧ w' = w.setCell a (.int .i32 1) := by
  go_enter Yba.func15, Yba.ntmps15
  go_wp2_with (go_at_call 19; refine (ilock_free a _ hc hz).mono ?_; rintro e w' ⟨rfl, rfl⟩)
  go_end0
  exact ⟨rfl, rfl⟩

set_option maxHeartbeats 800000 in
theorem iunlock_held (a : Addr) (w : World) (hc : w.cell? a = some (.int .i32 1)) (hz : w.frozen? a = false) :
    Calls Yba.prog 20 #[.pointer (some a)] w fun e w' => e = .returned (.tuple #[]) ∧ w' = w.setCell a (.int .i32 0) := by
  have hd := disable
  have he := enable
  have hr := releaseMerge
  have hcv := run_convert_to_unsafe (P := Yba.prog) (src := 95) (dst := 89) Yba.underlying95 Yba.underlying89 room38 hc
  have hadd := run_call_add (P := Yba.prog) Yba.func35 (by kernel_rfl) (by kernel_rfl) (by kernel_rfl) .i32 (by kernel_rfl) (y := -1) (s := 0) hc hz (by simp [go_sem]; rfl)
  go_enter Yba.func20, Yba.ntmps20
  go_wp2
  go_end0
  exact ⟨rfl, rfl⟩

set_option maxHeartbeats 800000 in
theorem unlock_held (a : Addr) (w : World) (hc : w.cell? a = some (.int .i32 1)) (hz : w.frozen? a = false) :
    Calls Yba.prog 16 #[.pointer (some a)] w fun e w' => e = .returned (.tuple #[]) ∧ w' = w.setCell a (.int .i32 0) := by
  go_enter Yba.func16, Yba.ntmps16
  go_wp2_with (go_at_call 20; refine (iunlock_held a _ hc hz).mono ?_; rintro e w' ⟨rfl, rfl⟩)
  go_end0
  exact ⟨rfl, rfl⟩

set_option maxHeartbeats 800000 in
theorem itry_free (a : Addr) (w : World) (hc : w.cell? a = some (.int .i32 0)) (hz : w.frozen? a = false) :
    Calls Yba.prog 31 #[.pointer (some a)] w fun e w' => e = .returned (.bool true) ∧ w' = w.setCell a (.int .i32 1) := by
  have hd := disable
  have he := enable
  have hq := acquire
  have hc2 := World.cell?_setCell_same w a (.int .i32 1) hc
  have hcv := run_convert_to_unsafe (P := Yba.prog) (src := 95) (dst := 89) Yba.underlying95 Yba.underlying89 room38 hc2
  have hcas := run_call_cas_hit (P := Yba.prog) Yba.func32 (by kernel_rfl) (by kernel_rfl) (by kernel_rfl) .i32 (by kernel_rfl) (y := 1) hc hz
  go_enter Yba.func31, Yba.ntmps31
  go_wp2
  go_ret
  exact ⟨rfl, rfl⟩

set_option maxHeartbeats 800000 in
theorem try_free (a : Addr) (w : World) (hc : w.cell? a = some (.int .i32 0)) (hz : w.frozen? a = false) :
    Calls Yba.prog 18 #[.pointer (some a)] w fun e w' => e = .returned (.bool true) ∧ w' = w.setCell a (.int .i32 1) := by
  go_enter Yba.func18, Yba.ntmps18
  go_wp2_with (go_at_call 31; refine (itry_free a _ hc hz).mono ?_; rintro e w' ⟨rfl, rfl⟩)
  go_ret
  exact ⟨rfl, rfl⟩

set_option maxHeartbeats 800000 in
theorem load64 (a : Addr) (w : World) (hc : w.cell? a = some (.int .u64 0)) :
    Calls Yba.prog 22 #[.pointer (some a)] w fun e w' => e = .returned (.int .u64 0) ∧ w' = w := by
  have hl := run_call_load (P := Yba.prog) Yba.func37 (by kernel_rfl) (by kernel_rfl) (by kernel_rfl) .u64 (by kernel_rfl) hc
  go_enter Yba.func22, Yba.ntmps22
  go_wp2
  go_ret
  exact ⟨rfl, rfl⟩

set_option maxHeartbeats 2000000 in
theorem wait_none (a : Addr) (w : World) (hc : w.cell? a = some (.int .u64 0)) :
    Calls Yba.prog 17 #[.pointer (some a)] w fun e w' => e = .returned (.tuple #[]) ∧ w' = w := by
  have hd := disable
  have he := enable
  have hq := acquire
  have hcv := run_convert_to_unsafe (P := Yba.prog) (src := 85) (dst := 89) Yba.underlying85 Yba.underlying89 room68 hc
  go_enter Yba.func17, Yba.ntmps17
  go_wp2
  refine wp_loop_rounds 1 ?_
  show Code.wp _ _ _ _ _
  go_wp2_with (go_at_call 22; refine (load64 a _ hc).mono ?_; rintro e w' ⟨rfl, rfl⟩)
  refine bodyPost_ret (results_none rfl _ _ _) rfl ?_
  exact ⟨rfl, rfl⟩
end Go.Proofs.Ybulkdnus.C
