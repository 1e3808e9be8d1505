import Derived.Test.YbulkdnusCCheck
namespace Go.Proofs.Ybulkdnus.C
open Go.RowKit
open Go.ChangeMaps (setBlock)
set_option linter.unusedVariables false
set_option maxRecDepth 100000

/-- the world when build is called -/
def W0 (w : World) : World := w.alloc (.cells #[.int .i64 0] 3)

theorem Made.whole {w w' : World} {hc cl fail : Bool} {lm cm : Option Nat} {S1 n1 S2 n2 : Nat} (h : Made (W0 w) w' hc cl fail w.heap.size lm cm S1 n1 S2 n2) (h1 : w.heap.size + 2 < S1) (h2 : S1 + n1 < S2)
    (m1 : ∀ M, lm = some M → w.heap.size + 2 < M ∧ M < S1) (m2 : ∀ M, cm = some M → w.heap.size + 2 < M ∧ M < S1) :
    Below w.heap.size w w' ∧ Whole w' (w.heap.size + 2) (w.heap.size + 1) w.heap.size 0 cl hc fail lm cm S1 n1 S2 n2 0 0 0 := by
  have hs : (W0 w).heap.size = w.heap.size + 1 := by simp [W0]
  have hb := h.bel
  have hx := h.box
  have ha := h.acc
  rw [hs] at hb hx ha
  refine ⟨((Below.refl w.heap.size w).alloc (Nat.le_refl _) _).trans (hb.mono (by omega)), ha, hx, ?_, h.lis, h.con, by omega, by omega, h1, h2, by rw [h.size]; omega, m1, m2⟩
  rw [hb.block w.heap.size (by omega)]
  exact new_at _ _ rfl

theorem build_maps_at (hc cl fail : Bool) (nL nC : Nat) (hL : nL ≤ 4096) (hC : nC ≤ 4096) (w : World) :
    Calls Yba.prog 10 #[.bool hc, .bool cl, .bool false, .bool fail, .int .u16 nL, .int .u16 nC, .pointer (some ⟨w.heap.size, 0, none⟩)] (W0 w) fun e w' =>
      e = .returned (.tuple #[.pointer (some ⟨w.heap.size + 2, 0, none⟩), .slice (some ⟨w.heap.size + 5, 0, none⟩) nL nL, .slice (some ⟨w.heap.size + 6 + nL, 0, none⟩) nC nC]) ∧
      Below w.heap.size w w' ∧ Whole w' (w.heap.size + 2) (w.heap.size + 1) w.heap.size 0 cl hc fail (some (w.heap.size + 3)) (some (w.heap.size + 4)) (w.heap.size + 5) nL (w.heap.size + 6 + nL) nC 0 0 0 := by
  refine (build_maps hc cl fail nL nC w.heap.size hL hC (W0 w)).mono ?_
  rintro e w' ⟨rfl, hM⟩
  have hs : (W0 w).heap.size = w.heap.size + 1 := by simp [W0]
  have e5 : (W0 w).heap.size + 5 + nL = w.heap.size + 6 + nL := by omega
  rw [hs] at hM e5
  rw [e5] at hM
  refine ⟨?_, hM.whole (by omega) (by omega) (fun M e => by cases e; omega) (fun M e => by cases e; omega)⟩
  rw [hs, e5]

theorem build_nil_at (hc cl fail : Bool) (nL nC : Int) (w : World) :
    Calls Yba.prog 10 #[.bool hc, .bool cl, .bool true, .bool fail, .int .u16 nL, .int .u16 nC, .pointer (some ⟨w.heap.size, 0, none⟩)] (W0 w) fun e w' =>
      e = .returned (.tuple #[.pointer (some ⟨w.heap.size + 2, 0, none⟩), .slice (some ⟨w.heap.size + 3, 0, none⟩) 0 0, .slice (some ⟨w.heap.size + 4, 0, none⟩) 0 0]) ∧
      Below w.heap.size w w' ∧ Whole w' (w.heap.size + 2) (w.heap.size + 1) w.heap.size 0 cl hc fail none none (w.heap.size + 3) 0 (w.heap.size + 4) 0 0 0 0 := by
  refine (build_nil hc cl fail nL nC w.heap.size (W0 w)).mono ?_
  rintro e w' ⟨rfl, hM⟩
  have hs : (W0 w).heap.size = w.heap.size + 1 := by simp [W0]
  rw [hs] at hM
  rw [hs]
  exact ⟨rfl, hM.whole (by omega) (by omega) nofun nofun⟩

set_option maxHeartbeats 8000000 in
theorem law_small (hc cl mn fail : Bool) (a4 a5 : Int) (h4 : a4 ≤ 4096) (h5 : a5 ≤ 4096) (w : World) (A cb : Nat) (lm cm : Option Nat) (S1 n1 S2 n2 : Nat)
    (hbuild : Calls Yba.prog 10 #[.bool hc, .bool cl, .bool mn, .bool fail, .int .u16 a4, .int .u16 a5, .pointer (some ⟨w.heap.size, 0, none⟩)] (W0 w) fun e w' =>
      e = .returned (.tuple #[.pointer (some ⟨A, 0, none⟩), .slice (some ⟨S1, 0, none⟩) n1 n1, .slice (some ⟨S2, 0, none⟩) n2 n2]) ∧ Below w.heap.size w w' ∧ Whole w' A cb w.heap.size 0 cl hc fail lm cm S1 n1 S2 n2 0 0 0)
    (hclose : ∀ W, Whole W A cb w.heap.size 0 cl hc fail lm cm S1 n1 S2 n2 0 0 0 → Calls Yba.prog 11 #[.pointer (some ⟨A, 0, none⟩)] W fun e w' => e = .returned .nilIface ∧ Below w.heap.size W w' ∧ Whole w' A cb w.heap.size 0 true hc fail lm cm S1 n1 S2 n2 (cntOf hc) 1 1)
    (hcheck : ∀ W, Whole W A cb w.heap.size 0 true hc fail lm cm S1 n1 S2 n2 (cntOf hc) 1 1 → Calls Yba.prog 12 #[.pointer (some ⟨A, 0, none⟩), .slice (some ⟨S1, 0, none⟩) n1 n1, .slice (some ⟨S2, 0, none⟩) n2 n2, .bool mn, .int .i64 1] W fun e w' => e = .returned (.bool true) ∧ Below w.heap.size W w') :
    Calls Yba.prog 5 #[.bool hc, .bool cl, .bool mn, .bool fail, .int .u16 a4, .int .u16 a5] w fun e w' => e = .returned (.bool true) ∧ Below w.heap.size w w' := by
  have HCL : Hid (∀ W, Whole W A cb w.heap.size 0 cl hc fail lm cm S1 n1 S2 n2 0 0 0 → Calls Yba.prog 11 #[.pointer (some ⟨A, 0, none⟩)] W fun e w' => e = .returned .nilIface ∧ Below w.heap.size W w' ∧ Whole w' A cb w.heap.size 0 true hc fail lm cm S1 n1 S2 n2 (cntOf hc) 1 1) := hclose
  have HCK : Hid (∀ W, Whole W A cb w.heap.size 0 true hc fail lm cm S1 n1 S2 n2 (cntOf hc) 1 1 → Calls Yba.prog 12 #[.pointer (some ⟨A, 0, none⟩), .slice (some ⟨S1, 0, none⟩) n1 n1, .slice (some ⟨S2, 0, none⟩) n2 n2, .bool mn, .int .i64 1] W fun e w' => e = .returned (.bool true) ∧ Below w.heap.size W w') := hcheck
  clear hclose hcheck
  have hx4 : ¬ (4096 < a4) := by omega
  have hx5 : ¬ (4096 < a5) := by omega
  cases hc
  · have hg : ∀ (x y : Operand) (w : World), (eqGuard .neq 59 x y .nilFunc .nilFunc).run Yba.prog w = .ok () w := can_guard false cb
    have hn : ∀ w : World, (binOp .neq 59 .nilFunc .nilFunc).run Yba.prog w = .ok (.bool false) w := can_neq false cb
    go_enter Yba.func5, Yba.ntmps5
    go_wp2_with (first
      | (go_at_call 10; refine hbuild.mono ?_; clear hbuild; rintro e W1 ⟨rfl, hb1, hW1⟩; have hcl := HCL.out W1 hW1; clear hW1)
      | (go_at_call 11; refine hcl.mono ?_; clear hcl; rintro e W2 ⟨rfl, hb2, hW2⟩; have hck := HCK.out W2 hW2; obtain ⟨_, c2, c3, c4, _, _, _, _⟩ := acc_cells hW2.acc; have cc : W2.cell? ⟨w.heap.size, 0, none⟩ = some (.int .i64 0) := (cnt_cell hW2.cnt).1; replace c4 : W2.cell? ⟨A, 4, none⟩ = some .nilFunc := c4; clear hW2)
      | (go_at_call 12; refine hck.mono ?_; clear hck; rintro e W3 ⟨rfl, hb3⟩))
    go_ret
    exact ⟨rfl, (hb1.trans hb2).trans hb3⟩
  · have hg : ∀ (x y : Operand) (w : World), (eqGuard .neq 59 x y (.func (.func 14) #[] #[.pointer (some ⟨cb, 0, none⟩)]) .nilFunc).run Yba.prog w = .ok () w := can_guard true cb
    have hn : ∀ w : World, (binOp .neq 59 (.func (.func 14) #[] #[.pointer (some ⟨cb, 0, none⟩)]) .nilFunc).run Yba.prog w = .ok (.bool true) w := can_neq true cb
    go_enter Yba.func5, Yba.ntmps5
    go_wp2_with (first
      | (go_at_call 10; refine hbuild.mono ?_; clear hbuild; rintro e W1 ⟨rfl, hb1, hW1⟩; have hcl := HCL.out W1 hW1; clear hW1)
      | (go_at_call 11; refine hcl.mono ?_; clear hcl; rintro e W2 ⟨rfl, hb2, hW2⟩; have hck := HCK.out W2 hW2; obtain ⟨_, c2, c3, c4, _, _, _, _⟩ := acc_cells hW2.acc; have cc : W2.cell? ⟨w.heap.size, 0, none⟩ = some (.int .i64 1) := (cnt_cell hW2.cnt).1; replace c4 : W2.cell? ⟨A, 4, none⟩ = some (.func (.func 14) #[] #[.pointer (some ⟨cb, 0, none⟩)]) := c4; clear hW2)
      | (go_at_call 12; refine hck.mono ?_; clear hck; rintro e W3 ⟨rfl, hb3⟩))
    go_ret
    exact ⟨rfl, (hb1.trans hb2).trans hb3⟩

set_option maxHeartbeats 4000000 in
theorem law_big4 (hc cl mn fail : Bool) (a4 a5 : Int) (h4 : 4096 < a4) (w : World) :
    Calls Yba.prog 5 #[.bool hc, .bool cl, .bool mn, .bool fail, .int .u16 a4, .int .u16 a5] w fun e w' => e = .returned (.bool true) ∧ Below w.heap.size w w' := by
  go_enter Yba.func5, Yba.ntmps5
  go_wp2
  go_ret
  exact ⟨rfl, Below.refl _ _⟩

set_option maxHeartbeats 4000000 in
theorem law_big5 (hc cl mn fail : Bool) (a4 a5 : Int) (h4 : ¬ 4096 < a4) (h5 : 4096 < a5) (w : World) :
    Calls Yba.prog 5 #[.bool hc, .bool cl, .bool mn, .bool fail, .int .u16 a4, .int .u16 a5] w fun e w' => e = .returned (.bool true) ∧ Below w.heap.size w w' := by
  go_enter Yba.func5, Yba.ntmps5
  go_wp2
  go_ret
  exact ⟨rfl, Below.refl _ _⟩

theorem law_any (hc cl mn fail : Bool) (a4 a5 : Int) (p4 : 0 ≤ a4) (p5 : 0 ≤ a5) (w : World) :
    Calls Yba.prog 5 #[.bool hc, .bool cl, .bool mn, .bool fail, .int .u16 a4, .int .u16 a5] w fun e w' => e = .returned (.bool true) ∧ Below w.heap.size w w' := by
  by_cases h4 : 4096 < a4
  · exact law_big4 hc cl mn fail a4 a5 h4 w
  by_cases h5 : 4096 < a5
  · exact law_big5 hc cl mn fail a4 a5 h4 h5 w
  cases mn with
  | true =>
    exact law_small hc cl true fail a4 a5 (by omega) (by omega) w _ _ none none _ 0 _ 0 (build_nil_at hc cl fail a4 a5 w) (fun W hW => close_nil W _ _ _ cl hc fail _ _ hW) (fun W hW => check_nil W _ _ _ hc fail _ _ _ hW)
  | false =>
    obtain ⟨nL, rfl⟩ := Int.eq_ofNat_of_zero_le p4
    obtain ⟨nC, rfl⟩ := Int.eq_ofNat_of_zero_le p5
    exact law_small hc cl false fail nL nC (by omega) (by omega) w _ _ _ _ _ nL _ nC (build_maps_at hc cl fail nL nC (by omega) (by omega) w) (fun W hW => close_maps W _ _ _ cl hc fail _ _ _ _ _ _ hW) (fun W hW => check_maps W _ _ _ hc fail _ _ _ _ _ _ _ (by omega) (by omega) hW)
end Go.Proofs.Ybulkdnus.C
