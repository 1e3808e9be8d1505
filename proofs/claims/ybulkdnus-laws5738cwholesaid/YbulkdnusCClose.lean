import Derived.Test.YbulkdnusCRange
namespace Go.Proofs.Ybulkdnus.C
open Go.RowKit
open Go.ChangeMaps (setBlock)
set_option linter.unusedVariables false
set_option maxRecDepth 100000

theorem box_cell {w : World} {cb pb : Nat} (h : w.heap[cb]? = some (boxObj pb)) : w.cell? ⟨cb, 0, none⟩ = some (.pointer (some ⟨pb, 0, none⟩)) := by simp [World.cell?, h, boxObj]
theorem cnt_cell {w : World} {pb : Nat} {c : Int} (h : w.heap[pb]? = some (.cells #[.int .i64 c] 3 (0, 0))) : w.cell? ⟨pb, 0, none⟩ = some (.int .i64 c) ∧ w.frozen? ⟨pb, 0, none⟩ = false := by
  constructor <;> simp [World.cell?, World.frozen?, h]

theorem cancel_whole {w : World} {A cb pb : Nat} {st : Int} {cl hc fail : Bool} {lm cm : Option Nat} {S1 n1 S2 n2 : Nat} {t1 t2 : Int} (h : Whole w A cb pb st cl hc fail lm cm S1 n1 S2 n2 0 t1 t2) :
    Calls Yba.prog 14 #[.pointer (some ⟨cb, 0, none⟩)] w fun e w' => e = .returned (.tuple #[]) ∧ Below pb w w' ∧ Whole w' A cb pb st cl hc fail lm cm S1 n1 S2 n2 1 t1 t2 := by
  obtain ⟨h1, h2⟩ := cnt_cell h.cnt
  refine (cancel_call cb pb w (box_cell h.box) h1 h2).mono ?_
  rintro e w' ⟨rfl, rfl⟩
  exact ⟨rfl, (Below.refl pb w).drew.setCell (p := ⟨pb, 0, none⟩) (Nat.le_refl pb) _, h.drew.count 1⟩
theorem lock_whole {w : World} {A cb pb : Nat} {cl hc fail : Bool} {lm cm : Option Nat} {S1 n1 S2 n2 : Nat} {cnt t1 t2 : Int} (h : Whole w A cb pb 0 cl hc fail lm cm S1 n1 S2 n2 cnt t1 t2) :
    Calls Yba.prog 15 #[.pointer (some ⟨A, 0, none⟩)] w fun e w' => e = .returned (.tuple #[]) ∧ Below pb w w' ∧ Whole w' A cb pb 1 cl hc fail lm cm S1 n1 S2 n2 cnt t1 t2 := by
  obtain ⟨c0, _, _, _, _, _, _, fz⟩ := acc_cells h.acc
  refine (lock_free ⟨A, 0, none⟩ w c0 (fz 0)).mono ?_
  rintro e w' ⟨rfl, rfl⟩
  exact ⟨rfl, (Below.refl _ _).setCell (by have := h.o1; have := h.o2; show pb ≤ A; omega) _, h.setSt 1⟩
theorem unlock_whole {w : World} {A cb pb : Nat} {cl hc fail : Bool} {lm cm : Option Nat} {S1 n1 S2 n2 : Nat} {cnt t1 t2 : Int} (h : Whole w A cb pb 1 cl hc fail lm cm S1 n1 S2 n2 cnt t1 t2) :
    Calls Yba.prog 16 #[.pointer (some ⟨A, 0, none⟩)] w fun e w' => e = .returned (.tuple #[]) ∧ Below pb w w' ∧ Whole w' A cb pb 0 cl hc fail lm cm S1 n1 S2 n2 cnt t1 t2 := by
  obtain ⟨c0, _, _, _, _, _, _, fz⟩ := acc_cells h.acc
  refine (unlock_held ⟨A, 0, none⟩ w c0 (fz 0)).mono ?_
  rintro e w' ⟨rfl, rfl⟩
  exact ⟨rfl, (Below.refl _ _).setCell (by have := h.o1; have := h.o2; show pb ≤ A; omega) _, h.setSt 0⟩
theorem try_whole {w : World} {A cb pb : Nat} {cl hc fail : Bool} {lm cm : Option Nat} {S1 n1 S2 n2 : Nat} {cnt t1 t2 : Int} (h : Whole w A cb pb 0 cl hc fail lm cm S1 n1 S2 n2 cnt t1 t2) :
    Calls Yba.prog 18 #[.pointer (some ⟨A, 0, none⟩)] w fun e w' => e = .returned (.bool true) ∧ Below pb w w' ∧ Whole w' A cb pb 1 cl hc fail lm cm S1 n1 S2 n2 cnt t1 t2 := by
  obtain ⟨c0, _, _, _, _, _, _, fz⟩ := acc_cells h.acc
  refine (try_free ⟨A, 0, none⟩ w c0 (fz 0)).mono ?_
  rintro e w' ⟨rfl, rfl⟩
  exact ⟨rfl, (Below.refl _ _).setCell (by have := h.o1; have := h.o2; show pb ≤ A; omega) _, h.setSt 1⟩

theorem meth_lis (x : Value) (w : World) : (method 253 74 x "Close").run Yba.prog w = .ok (64, x) w := by kernel_rfl
theorem meth_con (x : Value) (w : World) : (method 253 77 x "Close").run Yba.prog w = .ok (66, x) w := by kernel_rfl
def cntOf (hc : Bool) : Int := if hc then 1 else 0

theorem can_guard (hc : Bool) (cb : Nat) (x y : Operand) (w : World) : (eqGuard .neq 59 x y (canV hc cb) .nilFunc).run Yba.prog w = .ok () w := by
  cases hc <;> rfl
theorem can_neq (hc : Bool) (cb : Nat) (w : World) : (binOp .neq 59 (canV hc cb) .nilFunc).run Yba.prog w = .ok (.bool hc) w := by
  cases hc <;> rfl

set_option maxHeartbeats 8000000 in
theorem close_maps (w : World) (A cb pb : Nat) (cl hc fail : Bool) (L C S1 n1 S2 n2 : Nat) (h : Whole w A cb pb 0 cl hc fail (some L) (some C) S1 n1 S2 n2 0 0 0) :
    Calls Yba.prog 11 #[.pointer (some ⟨A, 0, none⟩)] w fun e w' => e = .returned .nilIface ∧ Below pb w w' ∧ Whole w' A cb pb 0 true hc fail (some L) (some C) S1 n1 S2 n2 (cntOf hc) 1 1 := by
  have hlock := lock_whole h
  have hpA : pb ≤ A := by have := h.o1; have := h.o2; omega
  have hg := can_guard hc cb
  have hn := can_neq hc cb
  clear h
  go_enter Yba.func11, Yba.ntmps11
  go_upto_if 16 with (go_at_call 15; refine hlock.mono ?_; clear hlock; rintro e W1 ⟨rfl, hb1, hW1⟩; have HW1 : Hid (Whole (W1.setCell ⟨A, 2, none⟩ (.bool true)) A cb pb 1 true hc fail (some L) (some C) S1 n1 S2 n2 0 0 0) := hW1.setCl true; have HB1 : Hid (Below pb w (W1.setCell ⟨A, 2, none⟩ (.bool true))) := hb1.setCell hpA _; obtain ⟨_, c2, _, c4, _, _, _, fz⟩ := acc_cells hW1.acc; have f2 := fz 2; clear fz hW1 hb1)
  clear hg hn c2 f2 c4
  go_cut [17, 18, 19, 20, 21] (fun _ _ _ _ _ wc => Below pb w wc ∧ Whole wc A cb pb 1 true hc fail (some L) (some C) S1 n1 S2 n2 (cntOf hc) 0 0)
  case first =>
    obtain ⟨W2, hW2⟩ : ∃ W2, W2 = W1.setCell ⟨A, 2, none⟩ (.bool true) := ⟨_, rfl⟩
    rw [← hW2] at HB1 HW1 ⊢
    clear hW2
    cases hc
    · go_wp2
      go_meet
      case rel => exact ⟨HB1.out, HW1.out⟩
    · obtain ⟨_, _, _, c4, _, _, _, _⟩ := acc_cells HW1.out.acc
      simp only [canV, if_true] at c4
      have hcan := cancel_whole HW1.out
      go_wp2_with (go_at_call 14; refine hcan.mono ?_; clear hcan; rintro e W3 ⟨rfl, hb3, hW3⟩)
      go_meet
      case rel => exact ⟨HB1.out.trans hb3, hW3⟩
  case rest =>
    clear HB1 HW1
    have HB : Hid (Below pb w wc) := hcut.1
    have HW : Hid (Whole wc A cb pb 1 true hc fail (some L) (some C) S1 n1 S2 n2 (cntOf hc) 0 0) := hcut.2
    obtain ⟨_, _, _, _, c5, _, _, _⟩ := acc_cells HW.out.acc
    have hrg := run_range_map (P := Yba.prog) wc 60 80 4 L _ _ Yba.underlying60 (HW.out.lis.map L rfl)
    clear hcut
    go_wp2
    clear hrg c5
    have o1 := HW.out.o1
    have o2 := HW.out.o2
    have o3 := HW.out.o3
    have o4 := HW.out.o4
    have o5 := HW.out.o5
    have hs1 : S1 + n1 < wc.heap.size := by omega
    have HS : Hid (Rng wc (wc.alloc (.mapIter (some L) n1 #[] n1)) 76 L S1 n1 wc.heap.size fail #[]) := Rng.start HW.out.lis.obj hs1
    go_loopg [3] ((leftOf (ents 74 (S1 + 1) n1) #[]).size) (fun g _ wq => ∃ seen, g = (leftOf (ents 74 (S1 + 1) n1) seen).size + 0 ∧ Rng wc wq 76 L S1 n1 wc.heap.size fail seen)
    case atStart => exact ⟨_, rfl, HS.out⟩
    case round =>
      clear HS
      obtain ⟨seen, hg, hR⟩ := hrel
      have HG : Hid _ := hg
      clear hg
      rcases hR.next (tp := 74) (HW.out.lis.map L rfl) (HW.out.m1 L rfl).2 hs1 (Nat.le_refl _) 0 with ⟨hall, hnx⟩ | ⟨j, Wn, hN, hshr, hnx⟩
      · have HB2 : Hid (Below pb w wr) := HB.out.trans (hR.chg.below (by omega) (fun k hk => by omega))
        have HW2 : Hid (Whole wr A cb pb 1 true hc fail (some L) (some C) S1 n1 S2 n2 (cntOf hc) 1 0) := HW.out.lisDone hR hall
        obtain ⟨W1, rfl⟩ : ∃ W1, W1 = wr := ⟨_, rfl⟩
        obtain ⟨_, _, _, _, _, c6, _, _⟩ := acc_cells HW2.out.acc
        have hrg := run_range_map (P := Yba.prog) W1 61 82 4 C _ _ Yba.underlying61 (HW2.out.con.map C rfl)
        have hs2 : S2 + n2 < W1.heap.size := HW2.out.o5
        clear hR hall HB HW
        go_wp2
        clear hrg c6 hnx
        have HS : Hid (Rng W1 (W1.alloc (.mapIter (some C) n2 #[] n2)) 78 C S2 n2 W1.heap.size fail #[]) := Rng.start HW2.out.con.obj hs2
        go_loopg [4] ((leftOf (ents 77 (S2 + 1) n2) #[]).size) (fun g _ wq => ∃ seen, g = (leftOf (ents 77 (S2 + 1) n2) seen).size + 0 ∧ Rng W1 wq 78 C S2 n2 W1.heap.size fail seen)
        case atStart => exact ⟨_, rfl, HS.out⟩
        case round =>
          clear HS HG
          obtain ⟨sn, hg, hR⟩ := hrel
          have HG : Hid _ := hg
          clear hg
          rcases hR.next (tp := 77) (HW2.out.con.map C rfl) (by have := (HW2.out.m2 C rfl).2; omega) hs2 (Nat.le_refl _) 0 with ⟨hall, hnx⟩ | ⟨j, Wn, hN, hshr, hnx⟩
          · have HB3 : Hid (Below pb w wr) := HB2.out.trans (hR.chg.below (by omega) (fun k hk => by omega))
            have HW3 : Hid (Whole wr A cb pb 1 true hc fail (some L) (some C) S1 n1 S2 n2 (cntOf hc) 1 1) := HW2.out.conDone hR hall
            clear hR hall HB2 HW2
            have hul := unlock_whole HW3.out
            go_wp2_with (first | (go_at_call 16; refine hul.mono ?_; clear hul; rintro e W4 ⟨rfl, hb4, hW4⟩; obtain ⟨_, _, _, _, _, _, c7, fz⟩ := acc_cells hW4.acc; have hwt := wait_none ⟨A, 7, none⟩ W4 c7; clear fz c7) | (go_at_call 17; refine hwt.mono ?_; clear hwt; rintro e W5 ⟨rfl, rfl⟩))
            go_ret
            exact ⟨rfl, HB3.out.trans hb4, hW4⟩
          · have hent := hN.ent
            have hcl := close_con (S2 + 1 + j) fail Wn hN.item
            have hmt := meth_con (.pointer (some ⟨S2 + 1 + j, 0, none⟩)) Wn
            have HN : Hid (Nxt W1 Wn 77 78 C S2 n2 W1.heap.size fail sn j) := hN
            have HSh : Hid _ := hshr
            clear hR hN hshr
            go_wp2_with (go_at_call 66; refine hcl.mono ?_; clear hcl; rintro e W3 ⟨⟨v, rfl⟩, hc3⟩)
            go_roundg ((leftOf (ents 77 (S2 + 1) n2) (sn.push j)).size + 0)
            case measure => have := HG.out; have := HSh.out; omega
            case rel => exact ⟨_, rfl, HN.out.done hs2 (Nat.le_refl _) hc3⟩
      · have hent := hN.ent
        have hcl := close_lis (S1 + 1 + j) fail Wn hN.item
        have hmt := meth_lis (.pointer (some ⟨S1 + 1 + j, 0, none⟩)) Wn
        have HN : Hid (Nxt wc Wn 74 76 L S1 n1 wc.heap.size fail seen j) := hN
        have HSh : Hid _ := hshr
        clear hR hN hshr
        go_wp2_with (go_at_call 64; refine hcl.mono ?_; clear hcl; rintro e W3 ⟨⟨v, rfl⟩, hc3⟩)
        go_roundg ((leftOf (ents 74 (S1 + 1) n1) (seen.push j)).size + 0)
        case measure => have := HG.out; have := HSh.out; omega
        case rel => exact ⟨_, rfl, HN.out.done hs1 (Nat.le_refl _) hc3⟩

theorem Whole.none {w : World} {A cb pb : Nat} {st : Int} {cl hc fail : Bool} {S1 S2 : Nat} {cnt t1 t2 : Int} (h : Whole w A cb pb st cl hc fail none none S1 0 S2 0 cnt t1 t2) (t1' t2' : Int) : Whole w A cb pb st cl hc fail none none S1 0 S2 0 cnt t1' t2' :=
  ⟨h.acc, h.box, h.cnt, ⟨fun j hj => absurd hj (Nat.not_lt_zero _), fun j hj => absurd hj (Nat.not_lt_zero _), nofun⟩, ⟨fun j hj => absurd hj (Nat.not_lt_zero _), fun j hj => absurd hj (Nat.not_lt_zero _), nofun⟩, h.o1, h.o2, h.o3, h.o4, h.o5, h.m1, h.m2⟩

set_option maxHeartbeats 8000000 in
theorem close_nil (w : World) (A cb pb : Nat) (cl hc fail : Bool) (S1 S2 : Nat) (h : Whole w A cb pb 0 cl hc fail none none S1 0 S2 0 0 0 0) :
    Calls Yba.prog 11 #[.pointer (some ⟨A, 0, none⟩)] w fun e w' => e = .returned .nilIface ∧ Below pb w w' ∧ Whole w' A cb pb 0 true hc fail none none S1 0 S2 0 (cntOf hc) 1 1 := by
  have hlock := lock_whole h
  have hpA : pb ≤ A := by have := h.o1; have := h.o2; omega
  have hg := can_guard hc cb
  have hn := can_neq hc cb
  clear h
  go_enter Yba.func11, Yba.ntmps11
  go_upto_if 16 with (go_at_call 15; refine hlock.mono ?_; clear hlock; rintro e W1 ⟨rfl, hb1, hW1⟩; have HW1 : Hid (Whole (W1.setCell ⟨A, 2, none⟩ (.bool true)) A cb pb 1 true hc fail none none S1 0 S2 0 0 0 0) := hW1.setCl true; have HB1 : Hid (Below pb w (W1.setCell ⟨A, 2, none⟩ (.bool true))) := hb1.setCell hpA _; obtain ⟨_, c2, _, c4, _, _, _, fz⟩ := acc_cells hW1.acc; have f2 := fz 2; clear fz hW1 hb1)
  clear hg hn c2 f2 c4
  go_cut [17, 18, 19, 20, 21] (fun _ _ _ _ _ wc => Below pb w wc ∧ Whole wc A cb pb 1 true hc fail none none S1 0 S2 0 (cntOf hc) 0 0)
  case first =>
    obtain ⟨W2, hW2⟩ : ∃ W2, W2 = W1.setCell ⟨A, 2, none⟩ (.bool true) := ⟨_, rfl⟩
    rw [← hW2] at HB1 HW1 ⊢
    clear hW2
    cases hc
    · go_wp2
      go_meet
      case rel => exact ⟨HB1.out, HW1.out⟩
    · obtain ⟨_, _, _, c4, _, _, _, _⟩ := acc_cells HW1.out.acc
      simp only [canV, if_true] at c4
      have hcan := cancel_whole HW1.out
      go_wp2_with (go_at_call 14; refine hcan.mono ?_; clear hcan; rintro e W3 ⟨rfl, hb3, hW3⟩)
      go_meet
      case rel => exact ⟨HB1.out.trans hb3, hW3⟩
  case rest =>
    clear HB1 HW1
    have HB : Hid (Below pb w wc) := hcut.1
    have HW : Hid (Whole wc A cb pb 1 true hc fail none none S1 0 S2 0 (cntOf hc) 0 0) := hcut.2
    obtain ⟨_, _, _, _, c5, _, _, _⟩ := acc_cells HW.out.acc
    have hrg := run_range_nilMap (P := Yba.prog) wc 60 80 4 Yba.underlying60
    have hsz : A < wc.heap.size := lt_of_heap HW.out.acc
    have hpz : pb ≤ wc.heap.size := by omega
    clear hcut
    go_wp2
    have HB1 : Hid (Below pb w (wc.alloc (.mapIter none 0 #[] 0))) := HB.out.alloc hpz _
    have HW1 : Hid (Whole (wc.alloc (.mapIter none 0 #[] 0)) A cb pb 1 true hc fail none none S1 0 S2 0 (cntOf hc) 0 0) := HW.out.alloc _
    have hnx := run_next_nilMap (P := Yba.prog) wc 0 0 0 #[]
    obtain ⟨W2, hW2⟩ : ∃ W2, W2 = wc.alloc (.mapIter none 0 #[] 0) := ⟨_, rfl⟩
    rw [← hW2] at HB1 HW1 hnx ⊢
    clear hW2 HB HW hrg c5
    obtain ⟨_, _, _, _, _, c6, _, _⟩ := acc_cells HW1.out.acc
    have hrg := run_range_nilMap (P := Yba.prog) W2 61 82 4 Yba.underlying61
    have hpz2 : pb ≤ W2.heap.size := by have := lt_of_heap HW1.out.acc; omega
    refine wp_loop_rounds 1 ?_
    show Code.wp _ _ _ _ _
    go_wp2
    have HB2 : Hid (Below pb w (W2.alloc (.mapIter none 0 #[] 0))) := HB1.out.alloc hpz2 _
    have HW2 : Hid (Whole (W2.alloc (.mapIter none 0 #[] 0)) A cb pb 1 true hc fail none none S1 0 S2 0 (cntOf hc) 0 0) := HW1.out.alloc _
    have hnx2 := run_next_nilMap (P := Yba.prog) W2 0 0 0 #[]
    obtain ⟨W3, hW3⟩ : ∃ W3, W3 = W2.alloc (.mapIter none 0 #[] 0) := ⟨_, rfl⟩
    rw [← hW3] at HB2 HW2 hnx2 ⊢
    clear hW3 HB1 HW1 hrg c6 hnx
    have hul := unlock_whole HW2.out
    refine wp_loop_rounds 1 ?_
    show Code.wp _ _ _ _ _
    go_wp2_with (first | (go_at_call 16; refine hul.mono ?_; clear hul; rintro e W4 ⟨rfl, hb4, hW4⟩; obtain ⟨_, _, _, _, _, _, c7, fz⟩ := acc_cells hW4.acc; have hwt := wait_none ⟨A, 7, none⟩ W4 c7; clear fz c7) | (go_at_call 17; refine hwt.mono ?_; clear hwt; rintro e W5 ⟨rfl, rfl⟩))
    go_ret
    exact ⟨rfl, HB2.out.trans hb4, hW4.none 1 1⟩
end Go.Proofs.Ybulkdnus.C
