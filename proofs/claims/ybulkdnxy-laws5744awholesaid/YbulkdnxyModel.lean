import Derived.Test.YbulkdnxyPath
namespace Go.Proofs.Ybulkdnxy
open Go.RowKit
set_option linter.unusedVariables false

theorem curI_some (r : Nat) : curI (some r) = r := rfl
theorem curI_none : curI none = -1 := rfl

theorem step_0 {d : Nd} {nn : Nat} {s : Sg} (h : s.kind % 3 = 0) : stepF d nn s = (keyF d nn d.nk s.K).getD none := by unfold stepF; rw [if_pos h]
theorem step_1 {d : Nd} {nn : Nat} {s : Sg} {i : Nat} (h : s.kind % 3 = 1) (hi : s.I = i) (hl : i < d.ni) : stepF d nn s = pickF (d.I i) nn := by
  unfold stepF; rw [if_neg (by omega), if_pos h, if_pos (by omega), hi]; rfl
theorem step_1n {d : Nd} {nn : Nat} {s : Sg} (h : s.kind % 3 = 1) (hl : ¬ (0 ≤ s.I ∧ s.I < d.ni)) : stepF d nn s = none := by
  unfold stepF; rw [if_neg (by omega), if_pos h, if_neg hl]
theorem step_2 {d : Nd} {nn : Nat} {s : Sg} (h : s.kind % 3 = 2) : stepF d nn s = pickF d.fm nn := by
  unfold stepF; rw [if_neg (by omega), if_neg (by omega)]

theorem keyF_hit {d : Nd} {nn v : Nat} {k : ByteArray} (h : k = d.K v) : keyF d nn (v + 1) k = some (kidF d nn v) := by simp only [keyF]; rw [if_pos h]
theorem keyF_miss {d : Nd} {nn v : Nat} {k : ByteArray} (h : ¬ k = d.K v) : keyF d nn (v + 1) k = keyF d nn v k := by simp only [keyF]; rw [if_neg h]

theorem toList_beq (a b : ByteArray) : (a.toList == b.toList) = decide (a = b) := by
  rw [← beq_toListBytes, bq]

end Go.Proofs.Ybulkdnxy
