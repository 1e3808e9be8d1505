import Derived.Test.YbulkdnymRows
import Derived.WalkKit
import Derived.WalkSpells
import Derived.WalkLawsBesides
namespace Go.Proofs.Ybulkdnym
open Go.RowKit

def least (m : Int) : Int := if m = 2 then 128 else if m = 3 then 2048 else if m = 4 then 65536 else 0

def enc (lo hi m : Int) : Bool := decide (least m ≤ lo) && decide (hi ≤ 1114111) && (decide (hi < 55296) || decide (57343 < lo))

theorem ret_bool {a b : Bool} (h : a = b) : Ending.returned (.bool a) = .returned (.bool b) := by rw [h]

set_option maxHeartbeats 400000 in
theorem least_any (m : Int) (w : World) (hm : m = 0 ∨ m = 1 ∨ m = 2 ∨ m = 3 ∨ m = 4) : Calls Yba.prog 4 #[.int .i64 m] w fun e w' => e = .returned (.int .i32 (least m)) ∧ w' = w := by
  rcases hm with rfl | rfl | rfl | rfl | rfl
  all_goals
    go_enter Yba.func4, Yba.ntmps4
    go_wp2
    go_ret
    exact ⟨rfl, rfl⟩

theorem info21 : (Yba.prog.info? 21).map (fun i => (i.zero, i.size, i.bytes)) = some (some (.int .i32 0), 1, 4) := by kernel_rfl

theorem run_tab (m : Int) (w : World) (hm : m = 0 ∨ m = 1 ∨ m = 2 ∨ m = 3 ∨ m = 4) :
    (Instr.index 25 (.agg #[.int .i32 0, .int .i32 0, .int .i32 128, .int .i32 2048, .int .i32 65536]) (.int .i64 m)).run Yba.prog w = .ok (.int .i32 (least m)) w := by
  obtain ⟨i, hi, _, hs, _⟩ := info_parts info21
  rcases hm with rfl | rfl | rfl | rfl | rfl <;>
    simp [Instr.index, asIntOf, run_underlying Yba.underlying25, run_underlying Yba.underlying21, part, isAgg, sizeOf, typeInfo, hi, hs, least]

set_option maxHeartbeats 400000 in
theorem enc_any (lo hi m : Int) (w : World) (hm : m = 0 ∨ m = 1 ∨ m = 2 ∨ m = 3 ∨ m = 4) : Calls Yba.prog 5 #[.int .i32 lo, .int .i32 hi, .int .i64 m] w fun e w' => e = .returned (.bool (enc lo hi m)) ∧ w' = w := by
  have ht := run_tab m w hm
  have HE : Hid (∀ b : Bool, b = enc lo hi m ↔ (b = true ↔ least m ≤ lo ∧ hi ≤ 1114111 ∧ (hi < 55296 ∨ 57343 < lo))) := fun b => by
    rw [Bool.eq_iff_iff]
    simp [enc, and_assoc]
  clear hm
  generalize least m = L at *
  go_enter Yba.func5, Yba.ntmps5
  go_wp2
  all_goals
    go_ret
    refine ⟨ret_bool ((HE.out _).2 ?_), rfl⟩
    simp
    try omega

theorem m_range (len : Int) : wrap64 ((IntKind.u64.wrap len).tmod 5) = 0 ∨ wrap64 ((IntKind.u64.wrap len).tmod 5) = 1 ∨ wrap64 ((IntKind.u64.wrap len).tmod 5) = 2 ∨ wrap64 ((IntKind.u64.wrap len).tmod 5) = 3 ∨ wrap64 ((IntKind.u64.wrap len).tmod 5) = 4 := by
  have h0 : 0 ≤ IntKind.u64.wrap len := by rw [IntKind.wrap_u64]; exact Int.emod_nonneg _ (by omega)
  rw [Int.tmod_eq_emod_of_nonneg h0]
  have h1 : 0 ≤ IntKind.u64.wrap len % 5 := Int.emod_nonneg _ (by omega)
  have h2 : IntKind.u64.wrap len % 5 < 5 := Int.emod_lt_of_pos _ (by omega)
  generalize IntKind.u64.wrap len % 5 = x at *
  unfold wrap64
  omega

theorem want_eq (lo hi m : Int) (b : Bool) (h : b = true ↔ least m ≤ lo ∧ hi ≤ 1114111 ∧ ¬ (55296 ≤ hi ∧ lo ≤ 57343)) : (enc lo hi m == b) = true := by
  rw [beq_iff_eq, Bool.eq_iff_iff, h]
  simp [enc, and_assoc]
  omega

set_option maxHeartbeats 400000 in
theorem walk_any (lo hi len : Int) (w : World) :
    Calls Yba.prog 3 #[.int .i32 lo, .int .i32 hi, .int .i64 len] w fun e w' => e = .returned (.bool true) ∧ w' = w := by
  have hm := m_range len
  have hle := least_any _ w hm
  have hen := enc_any lo hi _ w hm
  have HW : Hid (∀ b : Bool, (b = true ↔ least (wrap64 ((IntKind.u64.wrap len).tmod 5)) ≤ lo ∧ hi ≤ 1114111 ∧ ¬ (55296 ≤ hi ∧ lo ≤ 57343)) → (enc lo hi (wrap64 ((IntKind.u64.wrap len).tmod 5)) == b) = true) := fun b h => want_eq lo hi _ b h
  have HLE : Hid (Calls _ _ _ _ _) := hle
  have HEN : Hid (Calls _ _ _ _ _) := hen
  clear hm hle hen
  go_enter Yba.func3, Yba.ntmps3
  go_wp2_with fail
  generalize wrap64 ((IntKind.u64.wrap len).tmod 5) = m at *
  refine HLE.out.mono ?_
  rintro e w ⟨rfl, rfl⟩
  generalize least m = L at *
  go_wp2_with (go_at_call 5; refine HEN.out.mono ?_; rintro e w ⟨rfl, rfl⟩)
  all_goals
    go_ret
    refine ⟨ret_bool ?_, rfl⟩
    first
    | (apply HW.out; simp; omega)
    | (have h := HW.out true (by simp; omega); simpa using h)
    | (have h := HW.out false (by simp; omega); simpa using h)
end Go.Proofs.Ybulkdnym
