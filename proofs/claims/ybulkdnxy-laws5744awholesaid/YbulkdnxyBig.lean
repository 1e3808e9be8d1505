import Derived.Test.YbulkdnxyModel
namespace Go.Proofs.Ybulkdnxy
open Go.RowKit
set_option linter.unusedVariables false

set_option maxRecDepth 100000 in
set_option maxHeartbeats 4000000 in
theorem walk_big1 (na sa : Option Addr) (nn nc pl pc : Nat) (w : World) (hnn : 4096 < nn) (hn : nn ≤ 9223372036854775807) :
    Calls Yba.prog 3 #[.slice na nn nc, .slice sa pl pc] w fun e w' => e = .returned (.bool true) ∧ Below w.heap.size w w' := by
  go_enter Yba.func3, Yba.ntmps3
  go_wp2_with fail
  go_ret
  exact ⟨rfl, Below.refl _ _⟩

set_option maxRecDepth 100000 in
set_option maxHeartbeats 4000000 in
theorem walk_big2 (na sa : Option Addr) (nn nc pl pc : Nat) (w : World) (hnn : nn ≤ 4096) (hpl : 4096 < pl) (hp : pl ≤ 9223372036854775807) :
    Calls Yba.prog 3 #[.slice na nn nc, .slice sa pl pc] w fun e w' => e = .returned (.bool true) ∧ Below w.heap.size w w' := by
  go_enter Yba.func3, Yba.ntmps3
  go_wp2_with fail
  go_ret
  exact ⟨rfl, Below.refl _ _⟩
end Go.Proofs.Ybulkdnxy
