import Derived.Test.YbulkdnusRows
import Derived.WalkKit
import Derived.WalkSpells
import Derived.WalkLawsBesides
import Derived.Deep.QuietTactic
import Derived.BigQuiet
import Derived.WalkSmall
namespace Go.Proofs.Ybulkdnus
open Go.RowKit

def bstr (Z : Nat → Int) (n : Nat) : ByteArray := strOfNums ((List.range n).map Z)

theorem conv_at (b off n cap : Nat) (Z : Nat → Int) (w : World) (hc : ∀ i, i < n → w.cell? ⟨b, off + i, none⟩ = some (.int .u8 (Z i))) :
    (convert 23 9 (.slice (some ⟨b, off, none⟩) n cap)).run Yba.prog w = .ok (.string (bstr Z n)) w :=
  run_convert_bytes_arg (P := Yba.prog) w 23 5 Yba.underlying23 Yba.underlying5 b off n cap ((List.range n).map Z) (by simp) (fun i hi => by rw [hc i hi]; simp [List.getD, hi]) 9 Yba.underlying9

theorem conv_zero (o : Option Addr) (cap : Nat) (w : World) : (convert 23 9 (.slice o 0 cap)).run Yba.prog w = .ok (.string ByteArray.empty) w := by
  cases o with
  | none => exact run_convert_bytes_nil (P := Yba.prog) w 23 5 Yba.underlying23 Yba.underlying5 0 cap 9 Yba.underlying9
  | some a =>
    rw [run_convert_bytes_string w 23 9 5 _ 0 cap Yba.underlying23 Yba.underlying5 Yba.underlying9]
    rfl

set_option maxHeartbeats 400000 in
theorem equal_same (v1 v2 : Value) (s : ByteArray) (w : World) (h1 : (convert 23 9 v1).run Yba.prog w = .ok (.string s) w) (h2 : (convert 23 9 v2).run Yba.prog w = .ok (.string s) w) :
    Calls Yba.prog 13 #[v1, v2] w fun e w' => e = .returned (.bool true) ∧ w' = w := by
  go_enter Yba.func13, Yba.ntmps13
  go_wp2
  go_ret
  exact ⟨by simp, rfl⟩

theorem eql22_nil (a : Option Addr) (n c : Nat) (w : World) : (binOp .eql 22 (.slice a n c) (.slice none 0 0)).run Yba.prog w = .ok (.bool a.isNone) w := by
  have h : ∀ d : Nat, (Op.equalIn (d + 1) 22 (.slice a n c) (.slice none 0 0)).run Yba.prog w = .ok a.isNone w := fun d => by
    cases a <;> simp [Op.equalIn, run_underlying Yba.underlying22]
  simp only [binOp]
  simp [Op.equal, Op.maxDepth, h 9999]
theorem eql23_nil (a : Option Addr) (n c : Nat) (w : World) : (binOp .eql 23 (.slice a n c) (.slice none 0 0)).run Yba.prog w = .ok (.bool a.isNone) w := by
  have h : ∀ d : Nat, (Op.equalIn (d + 1) 23 (.slice a n c) (.slice none 0 0)).run Yba.prog w = .ok a.isNone w := fun d => by
    cases a <;> simp [Op.equalIn, run_underlying Yba.underlying23]
  simp only [binOp]
  simp [Op.equal, Op.maxDepth, h 9999]

/-- what 'string(v)' gives, in this world and behind draws -/
def StrIs (w : World) (v : Value) (s : ByteArray) : Prop := ∀ q, (convert 23 9 v).run Yba.prog (w.drewN q) = .ok (.string s) (w.drewN q)

/-- two rows of pieces that are alike -/
def Alike2 (w : World) (b off g m : Nat) (A : Nat → Option Addr) (L C : Nat → Nat) : Prop :=
  ∀ i, i < m → w.cell? ⟨b, off + i, none⟩ = some (.slice (A i) (L i) (C i)) ∧ ∃ o c s, w.cell? ⟨g, i, none⟩ = some (.slice o (L i) c) ∧ o.isNone = (A i).isNone ∧ StrIs w (.slice (A i) (L i) (C i)) s ∧ StrIs w (.slice o (L i) c) s

theorem StrIs.drewN {w : World} {v : Value} {s : ByteArray} (h : StrIs w v s) (q : Nat) : StrIs (w.drewN q) v s := fun n => by rw [World.drewN_drewN]; exact h _
theorem Alike2.drewN {w : World} {b off g m : Nat} {A : Nat → Option Addr} {L C : Nat → Nat} (h : Alike2 w b off g m A L C) (q : Nat) : Alike2 (w.drewN q) b off g m A L C := fun i hi => by
  obtain ⟨c1, o, c, s, c2, h1, h2, h3⟩ := h i hi
  exact ⟨by simpa using c1, o, c, s, by simpa using c2, h1, h2.drewN q, h3.drewN q⟩

set_option maxHeartbeats 800000 in
theorem same_any (b off g m cap : Nat) (A : Nat → Option Addr) (L C : Nat → Nat) (w : World) (h : Alike2 w b off g m A L C) (hm : m ≤ 1048576) :
    Calls Yba.prog 8 #[.slice (some ⟨b, off, none⟩) m cap, .slice (some ⟨g, 0, none⟩) m m] w fun e w' => e = .returned (.bool true) ∧ ∃ q, w' = w.drewN q := by
  have hq2 := eql22_nil
  have hq3 := eql23_nil
  have HA : Hid (Alike2 w b off g m A L C) := h
  clear h
  go_enter Yba.func8, Yba.ntmps8
  go_wp2
  go_loopw [5] (fun i wr => ∃ k : Nat, k ≤ m ∧ i = .int .i64 k ∧ ∃ q, wr = w.drewN q) (fun i _ => m - (intOf i).toNat)
  case atStart => exact ⟨0, Nat.zero_le _, rfl, 0, rfl⟩
  case round =>
    obtain ⟨k, hk, rfl, q, hq⟩ := hrel
    have HQ : Hid (wr = w.drewN q) := hq
    have hA : Alike2 wr b off g m A L C := by rw [hq]; exact HA.out.drewN q
    clear hq
    by_cases hlt : k < m
    · obtain ⟨c1, o, c, s, c2, hnn, hs1, hs2⟩ := hA k hlt
      have HS1 : Hid (StrIs wr (.slice (A k) (L k) (C k)) s) := hs1
      have HS2 : Hid (StrIs wr (.slice o (L k) c) s) := hs2
      have i0 : (0 : Int) ≤ (k : Int) := by omega
      have i1 : (k : Int) < (m : Int) := by omega
      clear hs1 hs2 hA
      go_wp2
      go_quiet ((go_at_call 13; exact Calls.quiet_of_same (equal_same _ _ s _ (HS1.out _) (HS2.out _))))
      go_wp2
      go_roundw
      case rel => exact ⟨k + 1, by omega, by go_num, _, by rw [HQ.out, World.drewN_drewN]⟩
      case measure => simp [intOf]; omega
    · clear hA
      go_wp2
      go_ret
      exact ⟨rfl, q, HQ.out⟩
end Go.Proofs.Ybulkdnus
