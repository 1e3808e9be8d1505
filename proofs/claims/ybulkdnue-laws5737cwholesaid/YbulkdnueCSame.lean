import Derived.Test.YbulkdnueRows
import Derived.WalkKit
import Derived.WalkSpells
import Derived.WalkLawsBesides
import Derived.Deep.QuietTactic
import Derived.BigQuiet
import Derived.WalkSmall
namespace Go.Proofs.Ybulkdnue
open Go.RowKit

theorem run_bits (b : Nat) (w : World) : (callFunc 17 #[.float .f64 b]).run Yba.prog w = .ok (.value (.int .u64 b)) w := by
  rw [run_callFunc_extern (e := Extern.MathFloatBits.float64bits) Yba.func17 (by kernel_rfl) (by kernel_rfl) (by kernel_rfl) (by kernel_rfl)]
  rfl

set_option maxHeartbeats 400000 in
theorem same_any (s : ByteArray) (wt l : Nat) (d c st q : Bool) (x3 x4 x5 x8 x9 x11 x12 x13 : Value) (w : World) :
    Calls Yba.prog 12 #[.agg #[.string s, .float .f64 wt, .float .f64 l, x3, x4, x5, .bool d, .bool c, x8, x9, .bool q, x11, x12, x13, .bool st], .agg #[.string s, .float .f64 wt, .float .f64 l, .bool d, .bool c, .bool st, .bool q]] w fun e w' => e = .returned (.bool true) ∧ Below w.heap.size w w' := by
  have hbits := run_bits
  go_enter Yba.func12, Yba.ntmps12
  go_wp2
  go_quiet (fail)
  go_wp2
  go_ret
  exact ⟨rfl, below_drewN (((Below.refl _ _).alloc (Nat.le_refl _) _).alloc (by simp) _) _⟩
end Go.Proofs.Ybulkdnue
