import Derived.Test.YbulkdnueBPlain
import Derived.WalkKit
import Derived.WalkSpells
import Derived.WalkLawsBesides
import Derived.Deep.AppendLies
import Derived.Laws.AppendOwnNone
namespace Go.Proofs.Ybulkdnue
open Go.RowKit

def bstr (Z : Nat → Int) (n : Nat) : ByteArray := strOfNums ((List.range n).map Z)

theorem conv_at (b off n cap : Nat) (Z : Nat → Int) (w : World) (hc : ∀ i, i < n → w.cell? ⟨b, off + i, none⟩ = some (.int .u8 (Z i))) :
    (convert 22 9 (.slice (some ⟨b, off, none⟩) n cap)).run Yba.prog w = .ok (.string (bstr Z n)) w :=
  run_convert_bytes_arg (P := Yba.prog) w 22 5 Yba.underlying22 Yba.underlying5 b off n cap ((List.range n).map Z) (by simp) (fun i hi => by rw [hc i hi]; simp [List.getD, hi]) 9 Yba.underlying9

theorem conv_zero (o : Option Addr) (cap : Nat) (w : World) : (convert 22 9 (.slice o 0 cap)).run Yba.prog w = .ok (.string ByteArray.empty) w := by
  cases o with
  | none => exact run_convert_bytes_nil (P := Yba.prog) w 22 5 Yba.underlying22 Yba.underlying5 0 cap 9 Yba.underlying9
  | some a =>
    rw [run_convert_bytes_string w 22 9 5 _ 0 cap Yba.underlying22 Yba.underlying5 Yba.underlying9]
    rfl

set_option maxHeartbeats 400000 in
theorem equal_same (v1 v2 : Value) (s : ByteArray) (w : World) (h1 : (convert 22 9 v1).run Yba.prog w = .ok (.string s) w) (h2 : (convert 22 9 v2).run Yba.prog w = .ok (.string s) w) :
    Calls Yba.prog 9 #[v1, v2] w fun e w' => e = .returned (.bool true) ∧ w' = w := by
  go_enter Yba.func9, Yba.ntmps9
  go_wp2
  go_ret
  exact ⟨by simp, rfl⟩

theorem eql_nil (a : Option Addr) (n c : Nat) (w : World) : (binOp .eql 22 (.slice a n c) (.slice none 0 0)).run Yba.prog w = .ok (.bool a.isNone) w := by
  have h : ∀ d : Nat, (Op.equalIn (d + 1) 22 (.slice a n c) (.slice none 0 0)).run Yba.prog w = .ok a.isNone w := fun d => by
    cases a <;> simp [Op.equalIn, run_underlying Yba.underlying22]
  simp only [binOp]
  simp [Op.equal, Op.maxDepth, h 9999]

set_option maxHeartbeats 400000 in
theorem clone_nil (w : World) : Calls Yba.prog 5 #[.slice none 0 0] w fun e w' => e = .returned (.slice none 0 0) ∧ w' = w := by
  have hq := eql_nil
  go_enter Yba.func5, Yba.ntmps5
  go_wp2
  go_ret
  exact ⟨rfl, rfl⟩

set_option maxHeartbeats 400000 in
theorem clone_empty (a : Addr) (cap : Nat) (w : World) : Calls Yba.prog 5 #[.slice (some a) 0 cap] w fun e w' => (∃ g c, e = .returned (.slice (some g) 0 c)) ∧ Below w.heap.size w w' := by
  have hq := eql_nil
  go_enter Yba.func5, Yba.ntmps5
  go_wp2_with fail
  go_ret
  exact ⟨⟨_, _, rfl⟩, (Below.refl _ _).alloc (Nat.le_refl _) _⟩

theorem info5 : (Yba.prog.info? 5).map (fun i => (i.zero, i.size, i.bytes)) = some (some (.int .u8 0), 1, 1) := by kernel_rfl

theorem owns_new (w : World) : (w.alloc (.cells #[] 5)).ownsRow w.heap.size 5 1 (.slice (some ⟨w.heap.size, 0, none⟩) 0 0) 0 [] :=
  ⟨rfl, .inr ⟨w.heap.size, 0, #[], rfl, Nat.le_refl _, heap_alloc_new _ _, Nat.le_refl _, Nat.zero_le _, rfl, rfl⟩⟩

/-- what a clone is: a row of the call's own -/
structure Cloned (w w' : World) (g n cap : Nat) (Z : Nat → Int) : Prop where
  le : n ≤ cap
  max : cap ≤ maxLen
  lo : w.heap.size ≤ g
  hi : g < w'.heap.size
  cell : ∀ i, i < n → w'.cell? ⟨g, i, none⟩ = some (.int .u8 (Z i))
  bel : Below w.heap.size w w'

theorem cloned_of {w w' : World} {g n cap : Nat} {Z : Nat → Int} (h : w'.ownsRow w.heap.size 5 1 (.slice (some ⟨g, 0, none⟩) n cap) n ((List.range n).map fun i => .int .u8 (Z i)))
    (hg : (w.alloc (.cells #[] 5)).grownBy w' (some w.heap.size)) (hlt : g < w'.heap.size) : Cloned w w' g n cap Z := by
  have hc := fun i (hi : i < n) => h.cellAt i (by omega)
  rcases h.2 with ⟨h0, _⟩ | ⟨g', cap', cur, h', hb, _, h1, h2, _⟩
  · simp at h0
  · simp only [Value.slice.injEq, Option.some.injEq, Addr.mk.injEq, and_true, true_and] at h'
    obtain ⟨rfl, rfl⟩ := h'
    refine ⟨by omega, h2, hb, hlt, fun i hi => by rw [hc i hi]; simp [hi], ?_⟩
    refine ((Below.refl _ _).alloc (Nat.le_refl _) _).grown hg (by simp) (fun k hk => ?_)
    simp at hk; omega

set_option maxHeartbeats 400000 in
theorem clone_full (b off n cap : Nat) (Z : Nat → Int) (w : World) (hc : ∀ i, i < n → w.cell? ⟨b, off + i, none⟩ = some (.int .u8 (Z i))) (hn : 0 < n) (hm : n ≤ 1048576) :
    Calls Yba.prog 5 #[.slice (some ⟨b, off, none⟩) n cap] w fun e w' => ∃ g cap', e = .returned (.slice (some ⟨g, 0, none⟩) n cap') ∧ Cloned w w' g n cap' Z := by
  have hq := eql_nil
  have HC : Hid (∀ i, i < n → w.cell? ⟨b, off + i, none⟩ = some (.int .u8 (Z i))) := hc
  clear hc
  have hb : b < w.heap.size := World.block_lt_of_cell? w _ (HC.out 0 hn)
  obtain ⟨i0, hi, hz0, hz1, hz2⟩ := info_parts info5
  have HI : Hid (Yba.prog.info? 5 = some i0 ∧ i0.zero = some (.int .u8 0) ∧ i0.size = 1 ∧ i0.bytes = 1) := ⟨hi, hz0, hz1, hz2⟩
  clear hi hz0 hz1 hz2
  go_enter Yba.func5, Yba.ntmps5
  go_wp2_with (at_builtin; refine wpList_append_lies _ rfl _ _ 22 rfl w.heap.size 5 i0 (.int .u8 0) 1 1 Yba.underlying22 HI.out.1 HI.out.2.1 HI.out.2.2.1 HI.out.2.2.2 rfl (by omega) _ 0 [] rfl (owns_new w) ⟨b, off, none⟩ n cap ((List.range n).map fun i => .int .u8 (Z i)) rfl (by simp) (fun j u hj => ?c1) (fun u hu => ?c2) hn (by unfold maxLen; omega) (by omega) (by simp) (w.heap.size + 1) (by simp) ?_)
  case c1 =>
    have hjn : j < n := by
      have := (List.getElem?_eq_some_iff.1 hj).1
      simpa using this
    have hu : u = .int .u8 (Z j) := by simp [hjn] at hj; exact hj.symm
    rw [hu, Go.WideShapes.add_plain, World.cell?_alloc_lt _ _ _ hb]
    exact HC.out j hjn
  case c2 =>
    simp at hu
    obtain ⟨a, _, rfl⟩ := hu
    rfl
  intro g cap' w' hown hgrow hat hlt
  have HF : Hid (Cloned w w' g n cap' Z) := cloned_of hown (by simpa [Value.ownBlock] using hgrow) hlt
  clear hown hgrow hat hlt
  go_wp2
  go_ret
  exact ⟨g, cap', by simp, HF.out⟩
end Go.Proofs.Ybulkdnue
