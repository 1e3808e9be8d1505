import Derived.Test.YbulkdnusRows
import Derived.WalkKit
import Derived.WalkSpells
import Derived.WalkLawsBesides
import Derived.Deep.QuietTactic
import Derived.BigQuiet
import Derived.WalkSmall
import Derived.LaidEqlPtr
namespace Go.Proofs.Ybulkdnus
open Go.RowKit

theorem info32 : (Yba.prog.info? 32).map (fun i => (i.zero, i.size, i.bytes)) = some (some (.agg #[.int .i64 0, .nilFunc, .bool false]), 3, 24) := by kernel_rfl

theorem eql30_same (a : Addr) (w : World) : (binOp .eql 30 (.pointer (some a)) (.pointer (some a))).run Yba.prog w = .ok (.bool true) w := by
  obtain ⟨i, hi, _⟩ := info_parts info32
  exact run_eql_ptr_same w a Yba.underlying30 hi
theorem neq30_same (a : Addr) (w : World) : (binOp .neq 30 (.pointer (some a)) (.pointer (some a))).run Yba.prog w = .ok (.bool false) w := by
  obtain ⟨i, hi, _⟩ := info_parts info32
  have h : ∀ d : Nat, (Op.equalIn (d + 1) 30 (.pointer (some a)) (.pointer (some a))).run Yba.prog w = .ok true w := fun d => by
    simp [Op.equalIn, run_underlying Yba.underlying30, sizeOf, typeInfo, hi, run_sameAddr_same]
  simp only [binOp]
  simp [Op.equal, Op.maxDepth, h 9999]
theorem eql30_other (w : World) {a b : Addr} {ca cb : Array Value} {ta tb : TypeId} (hne : a ≠ b) (ha : w.heap[a.block]? = some (.cells ca ta (0, 0))) (hb : w.heap[b.block]? = some (.cells cb tb (0, 0))) :
    (binOp .eql 30 (.pointer (some a)) (.pointer (some b))).run Yba.prog w = .ok (.bool false) w := by
  obtain ⟨i, hi, _, hs, _⟩ := info_parts info32
  exact run_eql_ptr_other w Yba.underlying30 hi (by omega) hne ha hb

theorem neq1_nil (w : World) : (binOp .neq 1 .nilFunc .nilFunc).run Yba.prog w = .ok (.bool false) w := by
  have h : ∀ d : Nat, (Op.equalIn (d + 1) 1 .nilFunc .nilFunc).run Yba.prog w = .ok true w := fun d => by
    simp [Op.equalIn, run_underlying Yba.underlying1]
  simp only [binOp]
  simp [Op.equal, Op.maxDepth, h 9999]

/-- the budget's cells that mayGrow reads -/
structure Budget (w : World) (B g m : Nat) (limit room used : Int) (first : Nat) : Prop where
  c0 : w.cell? ⟨B, 0, none⟩ = some (.int .i64 limit)
  c1 : w.cell? ⟨B, 1, none⟩ = some (.int .i64 room)
  c4 : w.cell? ⟨B, 4, none⟩ = some (.int .i64 used)
  c6 : w.cell? ⟨B, 6, none⟩ = some (.slice (some ⟨g, 0, none⟩) m m)
  p0 : w.cell? ⟨g, 0, none⟩ = some (.pointer (some ⟨first, 0, none⟩))
  pos : 0 < m

set_option maxHeartbeats 400000 in
theorem grow_first (B g m : Nat) (limit room used held n : Int) (S : Nat) (w : World) (hb : Budget w B g m limit room used S) (hs : w.cell? ⟨S, 0, none⟩ = some (.int .i64 held)) (hm : m ≤ 1048576) :
    Calls Yba.prog 9 #[.pointer (some ⟨B, 0, none⟩), .pointer (some ⟨S, 0, none⟩), .int .i64 n] w fun e w' => e = .returned (.bool (decide (wrap64 (used + n) ≤ room) || (used == held))) ∧ ∃ k, w' = w.drewN k := by
  obtain ⟨c0, c1, c4, c6, p0, hpos⟩ := hb
  have heq := eql30_same
  have i0 : (0 : Int) < (m : Int) := by omega
  cases hd : decide (wrap64 (used + n) ≤ room) with
  | true =>
    go_enter Yba.func9, Yba.ntmps9
    go_wp2
    go_quiet (fail)
    go_wp2
    go_ret
    exact ⟨by simp, _, rfl⟩
  | false =>
    go_enter Yba.func9, Yba.ntmps9
    go_wp2
    go_quiet (fail)
    go_wp2
    go_ret
    exact ⟨by simp, _, rfl⟩

set_option maxHeartbeats 400000 in
theorem grow_other (B g m : Nat) (limit room used n : Int) (F S : Nat) (w : World) (hb : Budget w B g m limit room used F) (hne : F ≠ S) {ca cb : Array Value} {ta tb : TypeId}
    (ha : w.heap[F]? = some (.cells ca ta (0, 0))) (hb' : w.heap[S]? = some (.cells cb tb (0, 0))) (hm : m ≤ 1048576) :
    Calls Yba.prog 9 #[.pointer (some ⟨B, 0, none⟩), .pointer (some ⟨S, 0, none⟩), .int .i64 n] w fun e w' => e = .returned (.bool (decide (wrap64 (used + n) ≤ limit))) ∧ ∃ k, w' = w.drewN k := by
  obtain ⟨c0, c1, c4, c6, p0, hpos⟩ := hb
  have heq := eql30_other w (a := ⟨F, 0, none⟩) (b := ⟨S, 0, none⟩) (by intro h; exact hne (by injection h)) ha hb'
  clear ha hb'
  have i0 : (0 : Int) < (m : Int) := by omega
  go_enter Yba.func9, Yba.ntmps9
  go_wp2
  go_quiet (fail)
  go_wp2
  go_ret
  exact ⟨by simp, _, rfl⟩
end Go.Proofs.Ybulkdnus
