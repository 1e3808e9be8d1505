import Derived.Test.YbulkdnusCMaps
import Derived.Deep.MidRow
namespace Go.Proofs.Ybulkdnus.C
open Go.RowKit
open Go.ChangeMaps (setBlock)
set_option linter.unusedVariables false
set_option maxRecDepth 100000

set_option maxHeartbeats 2000000 in
theorem cancel_call (cb pb : Nat) (w : World) (h1 : w.cell? ⟨cb, 0, none⟩ = some (.pointer (some ⟨pb, 0, none⟩))) (h2 : w.cell? ⟨pb, 0, none⟩ = some (.int .i64 0)) (h3 : w.frozen? ⟨pb, 0, none⟩ = false) :
    Calls Yba.prog 14 #[.pointer (some ⟨cb, 0, none⟩)] w fun e w' => e = .returned (.tuple #[]) ∧ w' = w.drew.setCell ⟨pb, 0, none⟩ (.int .i64 1) := by
  go_enter Yba.func14, Yba.ntmps14
  go_still_tail 6, (by kernel_rfl)
  go_wp2
  go_end0
  exact ⟨rfl, rfl⟩
end Go.Proofs.Ybulkdnus.C
