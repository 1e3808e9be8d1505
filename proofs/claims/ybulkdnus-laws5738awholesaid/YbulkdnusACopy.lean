import Derived.Test.YbulkdnusAClone
namespace Go.Proofs.Ybulkdnus
open Go.RowKit

set_option maxHeartbeats 800000 in
theorem clone_any (b off m cap : Nat) (A : Nat → Option Addr) (L C : Nat → Nat) (Z : Nat → Nat → Int) (w : World) (hp : PRow w b off m A L C) (hpc : ∀ i, i < m → Piece w (A i) (L i) (Z i)) (hm0 : 0 < m) (hm : m ≤ 1048576) (ht : tot L m ≤ 16777216) :
    Calls Yba.prog 6 #[.slice (some ⟨b, off, none⟩) m cap] w fun e w' => e = .returned (.slice (some ⟨w.heap.size, 0, none⟩) m m) ∧ Cp w w' m m A L Z := by
  have hq2 := eql22_nil
  have hmk := run_mkS m hm
  have hbw : b < w.heap.size := World.block_lt_of_cell? w _ (hp 0 hm0)
  have HP : Hid (PRow w b off m A L C) := hp
  have HPC : Hid (∀ i, i < m → Piece w (A i) (L i) (Z i)) := hpc
  clear hp hpc
  obtain ⟨i0, hi, hz0, hz1, hz2⟩ := info_parts info5
  have HI : Hid (Yba.prog.info? 5 = some i0 ∧ i0.zero = some (.int .u8 0) ∧ i0.size = 1 ∧ i0.bytes = 1) := ⟨hi, hz0, hz1, hz2⟩
  clear hi hz0 hz1 hz2
  go_enter Yba.func6, Yba.ntmps6
  go_wp2
  go_loopw [4] (fun i wr => ∃ k : Nat, k ≤ m ∧ i = .int .i64 k ∧ Cp w wr m k A L Z) (fun i _ => m - (intOf i).toNat)
  case atStart => exact ⟨0, Nat.zero_le _, rfl, Cp.start w m A L Z⟩
  case round =>
    clear hmk
    obtain ⟨k, hk, rfl, hC⟩ := hrel
    have HCP : Hid (Cp w wr m k A L Z) := hC
    clear hC
    by_cases hlt : k < m
    · have ck : wr.cell? ⟨b, off + k, none⟩ = some (.slice (A k) (L k) (C k)) := (HCP.out.bel.cell (p := ⟨b, off + k, none⟩) hbw).trans (HP.out k hlt)
      have hgt := HCP.out.lt
      have hbr : b < wr.heap.size := by omega
      have hfr := HCP.out.free k hlt
      have htd := HCP.out.todo k (Nat.le_refl _) hlt
      have hlk : L k ≤ 16777216 := Nat.le_trans (tot_ge L hlt) ht
      have hpk := HPC.out k hlt
      cases hA : A k with
      | none =>
        rw [hA] at ck
        go_wp2
        go_roundw
        case rel => exact ⟨k + 1, by omega, by go_num, HCP.out.nil hlt hA⟩
        case measure => simp [intOf]; omega
      | some a =>
        rw [hA] at ck
        have HAK : Hid ((A k).isNone = false) := by show (A k).isNone = false; rw [hA]; rfl
        by_cases hl0 : L k = 0
        · rw [hl0] at ck
          have HL0 : Hid (L k = 0) := hl0
          clear hl0
          have hput := HCP.out.put (w' := wr.alloc (.cells #[] 5)) (g := wr.heap.size) (c := 0) hlt HAK.out ((Below.refl _ _).alloc (Nat.le_refl _) _) (Nat.le_refl _) (by simp) (fun j hj => by have := HL0.out; omega)
          rw [World.setCell_alloc_past _ _ _ _ hgt, HL0.out] at hput
          have HPUT : Hid (Cp _ _ _ _ _ _ _) := hput
          clear hput
          go_wp2
          go_roundw
          case rel => exact ⟨k + 1, by omega, by go_num, HPUT.out⟩
          case measure => simp [intOf]; omega
        · obtain ⟨pb, po, hpa, hpz⟩ := hpk.2 (by omega)
          rw [hA] at hpa
          obtain rfl : a = ⟨pb, po, none⟩ := by injection hpa
          have hpb : pb < w.heap.size := World.block_lt_of_cell? w _ (hpz 0 (by omega))
          have HPZ : Hid (∀ j, j < L k → wr.cell? ⟨pb, po + j, none⟩ = some (.int .u8 (Z k j))) := fun j hj => (HCP.out.bel.cell (p := ⟨pb, po + j, none⟩) hpb).trans (hpz j hj)
          clear hpk hpa hA hpz
          have hlk0 : 0 < L k := by omega
          go_wp2_with (at_builtin; refine wpList_append_lies _ rfl _ _ 23 rfl wr.heap.size 5 i0 (.int .u8 0) 1 1 Yba.underlying23 HI.out.1 HI.out.2.1 HI.out.2.2.1 HI.out.2.2.2 rfl (by omega) _ 0 [] rfl (owns_new wr) ⟨pb, po, none⟩ (L k) (C k) ((List.range (L k)).map fun i => .int .u8 (Z k i)) rfl (by simp) (fun j u hj => ?c1) (fun u hu => ?c2) hlk0 (by unfold maxLen; omega) (by omega) (by simp) (wr.heap.size + 1) (by simp) ?_)
          case c1 =>
            have hjn : j < L k := by
              have := (List.getElem?_eq_some_iff.1 hj).1
              simpa using this
            have hu : u = .int .u8 (Z k j) := by simp [hjn] at hj; exact hj.symm
            rw [hu, Go.WideShapes.add_plain, World.cell?_alloc_lt _ _ _ (by show pb < _; have := HCP.out.bel.size; omega)]
            exact HPZ.out j hjn
          case c2 =>
            simp at hu
            obtain ⟨a, _, rfl⟩ := hu
            rfl
          intro g cap' w' hown hgrow hat hgl
          have hcl : Cloned wr w' g (L k) (Z k) := cloned_of hown (by simpa [Value.ownBlock] using hgrow) hgl
          have HF : Hid (Cp w (w'.setCell ⟨w.heap.size, k, none⟩ (.slice (some ⟨g, 0, none⟩) (L k) cap')) m (k + 1) A L Z) := HCP.out.put hlt HAK.out hcl.bel hcl.lo hcl.hi hcl.cell
          have c1 := (hcl.bel.cell (p := ⟨w.heap.size, k, none⟩) hgt).trans htd
          have f1 := (hcl.bel.frozen (p := ⟨w.heap.size, k, none⟩) hgt).trans hfr
          clear hown hgrow hat hgl hcl ck htd hfr
          go_wp2
          go_roundw
          case rel => exact ⟨k + 1, by omega, by go_num, HF.out⟩
          case measure => simp [intOf]; omega
    · have hkm : k = m := by omega
      subst hkm
      go_wp2
      go_ret
      exact ⟨rfl, HCP.out⟩

set_option maxHeartbeats 400000 in
theorem clone_nil (w : World) : Calls Yba.prog 6 #[.slice none 0 0] w fun e w' => e = .returned (.slice none 0 0) ∧ w' = w := by
  have hq2 := eql22_nil
  go_enter Yba.func6, Yba.ntmps6
  go_wp2
  go_ret
  exact ⟨rfl, rfl⟩

set_option maxHeartbeats 400000 in
theorem clone_zero (a : Addr) (cap : Nat) (w : World) : Calls Yba.prog 6 #[.slice (some a) 0 cap] w fun e w' => e = .returned (.slice (some ⟨w.heap.size, 0, none⟩) 0 0) ∧ Below w.heap.size w w' := by
  have hq2 := eql22_nil
  have hmk : ∀ w : World, (Instr.makeSlice 22 (.int .i64 0) (.int .i64 0)).run Yba.prog w = .ok (.slice (some ⟨w.heap.size, 0, none⟩) 0 0) (w.alloc (.cells (madeS 0) 23)) := run_mkS 0 (by omega)
  go_enter Yba.func6, Yba.ntmps6
  go_wp2
  refine wp_loop_rounds 1 ?_
  rw [rounds_succ]
  go_wp2
  go_ret
  exact ⟨rfl, (Below.refl _ _).alloc (Nat.le_refl _) _⟩

set_option maxHeartbeats 400000 in
theorem same_nil (w : World) : Calls Yba.prog 8 #[.slice none 0 0, .slice none 0 0] w fun e w' => e = .returned (.bool true) ∧ w' = w := by
  have hq2 := eql22_nil
  go_enter Yba.func8, Yba.ntmps8
  go_wp2
  refine wp_loop_rounds 1 ?_
  rw [rounds_succ]
  go_wp2
  go_ret
  exact ⟨rfl, rfl⟩

set_option maxHeartbeats 400000 in
theorem same_zero (a g : Addr) (cap c : Nat) (w : World) : Calls Yba.prog 8 #[.slice (some a) 0 cap, .slice (some g) 0 c] w fun e w' => e = .returned (.bool true) ∧ w' = w := by
  have hq2 := eql22_nil
  go_enter Yba.func8, Yba.ntmps8
  go_wp2
  refine wp_loop_rounds 1 ?_
  rw [rounds_succ]
  go_wp2
  go_ret
  exact ⟨rfl, rfl⟩
end Go.Proofs.Ybulkdnus
