import Derived.Test.YbulkdnueRows
import Derived.WalkKit
import Derived.WalkSpells
import Derived.WalkLawsBesides
namespace Go.Proofs.Ybulkdnue
open Go.RowKit

def fpos (b : Nat) : Bool := FloatKind.f64.format.order b 0 == some .gt
def used (l : Nat) (d c st : Bool) : Bool := fpos l && !d && !c && !st

theorem bcell {W w1 : World} (hb : Below W.heap.size W w1) : (∀ b o, b < W.heap.size → w1.cell? ⟨b, o, none⟩ = W.cell? ⟨b, o, none⟩) ∧ (∀ b o, b < W.heap.size → w1.frozen? ⟨b, o, none⟩ = W.frozen? ⟨b, o, none⟩) :=
  ⟨fun b o h => hb.cell (p := ⟨b, o, none⟩) h, fun b o h => hb.frozen (p := ⟨b, o, none⟩) h⟩

set_option maxHeartbeats 400000 in
theorem used_any (s : ByteArray) (wt l : Nat) (d c st q : Bool) (w : World) :
    Calls Yba.prog 10 #[.agg #[.string s, .float .f64 wt, .float .f64 l, .bool d, .bool c, .bool st, .bool q]] w fun e w' => e = .returned (.bool (used l d c st)) ∧ Below w.heap.size w w' := by
  go_enter Yba.func10, Yba.ntmps10
  go_wp2
  all_goals
    go_ret
    exact ⟨by simp_all [used, fpos], (Below.refl _ _).alloc (Nat.le_refl _) _⟩

set_option maxHeartbeats 400000 in
theorem traded_any (s : ByteArray) (wt l : Nat) (d c st q : Bool) (x3 x4 x5 x8 x9 x11 x12 x13 : Value) (w : World) :
    Calls Yba.prog 18 #[.agg #[.string s, .float .f64 wt, .float .f64 l, x3, x4, x5, .bool d, .bool c, x8, x9, .bool q, x11, x12, x13, .bool st]] w fun e w' => e = .returned (.bool (fpos l)) ∧ Below w.heap.size w w' := by
  go_enter Yba.func18, Yba.ntmps18
  go_wp2
  all_goals
    go_ret
    exact ⟨by simp_all [fpos], (Below.refl _ _).alloc (Nat.le_refl _) _⟩

set_option maxHeartbeats 400000 in
theorem held_any (s : ByteArray) (wt l : Nat) (d c st q : Bool) (x3 x4 x5 x8 x9 x11 x12 x13 : Value) (w : World) :
    Calls Yba.prog 19 #[.agg #[.string s, .float .f64 wt, .float .f64 l, x3, x4, x5, .bool d, .bool c, x8, x9, .bool q, x11, x12, x13, .bool st]] w fun e w' => e = .returned (.bool (st || c)) ∧ Below w.heap.size w w' := by
  go_enter Yba.func19, Yba.ntmps19
  go_wp2
  all_goals
    go_ret
    exact ⟨by simp_all, (Below.refl _ _).alloc (Nat.le_refl _) _⟩

set_option maxHeartbeats 400000 in
theorem inUse_any (s : ByteArray) (wt l : Nat) (d c st q : Bool) (x3 x4 x5 x8 x9 x11 x12 x13 : Value) (w : World) :
    Calls Yba.prog 16 #[.agg #[.string s, .float .f64 wt, .float .f64 l, x3, x4, x5, .bool d, .bool c, x8, x9, .bool q, x11, x12, x13, .bool st]] w fun e w' => e = .returned (.bool (used l d c st)) ∧ Below w.heap.size w w' := by
  go_enter Yba.func16, Yba.ntmps16
  go_wp2_with fail
  refine (traded_any s wt l d c st q x3 x4 x5 x8 x9 x11 x12 x13 _).mono ?_
  rintro e w1 ⟨rfl, hb⟩
  obtain ⟨hc, hf⟩ := bcell hb
  have hz : w.heap.size < w1.heap.size := by have := hb.size; simp at this; omega
  have HB : Hid (Below _ _ _) := hb
  clear hb
  go_wp2_with (go_at_call 19; refine (held_any s wt l _ c st q x3 x4 x5 x8 x9 x11 x12 x13 _).mono ?_; rintro e w2 ⟨rfl, hb2⟩)
  · go_ret
    exact ⟨by simp_all [used], ((Below.refl _ _).alloc (Nat.le_refl _) _).trans (HB.out.mono (by simp))⟩
  · go_ret
    exact ⟨by simp_all [used]; cases st <;> cases c <;> rfl, (((Below.refl _ _).alloc (Nat.le_refl _) _).trans (HB.out.mono (by simp))).trans (hb2.mono (by omega))⟩
  · go_ret
    exact ⟨by simp_all [used], ((Below.refl _ _).alloc (Nat.le_refl _) _).trans (HB.out.mono (by simp))⟩
end Go.Proofs.Ybulkdnue
