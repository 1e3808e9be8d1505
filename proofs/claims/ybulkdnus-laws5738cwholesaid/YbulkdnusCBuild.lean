import Derived.Test.YbulkdnusCPart
import Derived.Deep.DeepCutAuto
import Derived.Laws.EntriesVeiled
import Derived.Deep.LoopGhost
namespace Go.Proofs.Ybulkdnus.C
open Go.RowKit
open Go.ChangeMaps (setBlock)
set_option linter.unusedVariables false
set_option maxRecDepth 100000

def boxObj (pb : Nat) : Obj := .cells #[.pointer (some ⟨pb, 0, none⟩)] 53 (0, 0)

/-- the first loop of build -/
structure L1 (w wr : World) (hc cl fail : Bool) (pb nL i : Nat) : Prop where
  bel : Below w.heap.size w wr
  size : wr.heap.size = w.heap.size + 4 + 1 + i
  box : wr.heap[w.heap.size]? = some (boxObj pb)
  acc : wr.heap[w.heap.size + 1]? = some (acc 0 cl (canV hc w.heap.size) (some (w.heap.size + 2)) (some (w.heap.size + 3)))
  other : wr.heap[w.heap.size + 3]? = some (.map #[] 0)
  part : Part wr 74 76 (w.heap.size + 2) (w.heap.size + 4) nL i fail

structure L2 (w wr : World) (hc cl fail : Bool) (pb nL nC i : Nat) : Prop where
  bel : Below w.heap.size w wr
  size : wr.heap.size = w.heap.size + 5 + nL + 1 + i
  box : wr.heap[w.heap.size]? = some (boxObj pb)
  acc : wr.heap[w.heap.size + 1]? = some (acc 0 cl (canV hc w.heap.size) (some (w.heap.size + 2)) (some (w.heap.size + 3)))
  lis : Rows wr 74 76 (some (w.heap.size + 2)) (w.heap.size + 4) nL 0 fail
  part : Part wr 77 78 (w.heap.size + 3) (w.heap.size + 5 + nL) nC i fail

theorem L1.next {w wr : World} {hc cl fail : Bool} {pb nL : Nat} (h : L1 w wr hc cl fail pb nL nL) (nC : Nat) : L2 w (wr.alloc (.cells (madeP nC) 77)) hc cl fail pb nL nC 0 := by
  have hs := h.size
  refine ⟨h.bel.alloc (by omega) _, by simp [hs], ?_, ?_, h.part.rows.kept (fun k hk => Below.heap_alloc _ _ _ ?_), ?_⟩
  · rw [Below.heap_alloc _ _ _ (by omega)]; exact h.box
  · rw [Below.heap_alloc _ _ _ (by omega)]; exact h.acc
  · rcases hk with hk | hk
    · omega
    · simp at hk; omega
  · have := Part.start (tp := 77) (te := 78) (n := nC) (fail := fail) h.other 77
    rwa [hs, show w.heap.size + 4 + 1 + nL = w.heap.size + 5 + nL from by omega] at this

/-- the middle of a round -/
structure M1 (w wr : World) (hc cl fail : Bool) (pb nL i : Nat) : Prop where
  bel : Below w.heap.size w wr
  size : wr.heap.size = w.heap.size + 4 + 1 + (i + 1)
  box : wr.heap[w.heap.size]? = some (boxObj pb)
  acc : wr.heap[w.heap.size + 1]? = some (acc 0 cl (canV hc w.heap.size) (some (w.heap.size + 2)) (some (w.heap.size + 3)))
  other : wr.heap[w.heap.size + 3]? = some (.map #[] 0)
  half : Half wr 74 76 (w.heap.size + 2) (w.heap.size + 4) nL i fail

theorem L1.half {w wr : World} {hc cl fail : Bool} {pb nL i : Nat} (h : L1 w wr hc cl fail pb nL i) (hi : i < nL) : M1 w (mid wr 76 (w.heap.size + 4) i fail) hc cl fail pb nL i := by
  have hs := h.size
  refine ⟨mid_below h.bel _ (by omega) (by omega) _ _, by rw [mid_size, hs]; omega, ?_, ?_, ?_, h.part.half (by omega) hi (by omega)⟩
  · rw [mid_block _ _ _ _ _ _ (by omega) (by omega)]; exact h.box
  · rw [mid_block _ _ _ _ _ _ (by omega) (by omega)]; exact h.acc
  · rw [mid_block _ _ _ _ _ _ (by omega) (by omega)]; exact h.other
theorem M1.drew {w wr : World} {hc cl fail : Bool} {pb nL i : Nat} (h : M1 w wr hc cl fail pb nL i) : M1 w wr.drew hc cl fail pb nL i := ⟨⟨h.bel.os, h.bel.tape, h.bel.output, h.bel.size, h.bel.block⟩, h.size, h.box, h.acc, h.other, h.half.drew⟩
theorem below_setBlock {B : Nat} {w w' : World} (h : Below B w w') {b : Nat} (hb : B ≤ b) (o : Obj) : Below B w (setBlock w' b o) :=
  ⟨h.os, h.tape, h.output, by simpa [setBlock] using h.size, fun k hk => (heap_setBlock_other _ (by omega)).trans (h.block k hk)⟩
theorem M1.step {w wr : World} {hc cl fail : Bool} {pb nL i : Nat} (h : M1 w wr hc cl fail pb nL i) : L1 w (setBlock wr (w.heap.size + 2) (.map (ents 74 (w.heap.size + 4 + 1) (i + 1)) (i + 1))) hc cl fail pb nL (i + 1) :=
  ⟨below_setBlock h.bel (by omega) _, by simpa [setBlock] using h.size, (heap_setBlock_other _ (by omega)).trans h.box, (heap_setBlock_other _ (by omega)).trans h.acc, (heap_setBlock_other _ (by omega)).trans h.other, h.half.step (by omega)⟩

structure M2 (w wr : World) (hc cl fail : Bool) (pb nL nC i : Nat) : Prop where
  bel : Below w.heap.size w wr
  size : wr.heap.size = w.heap.size + 5 + nL + 1 + (i + 1)
  box : wr.heap[w.heap.size]? = some (boxObj pb)
  acc : wr.heap[w.heap.size + 1]? = some (acc 0 cl (canV hc w.heap.size) (some (w.heap.size + 2)) (some (w.heap.size + 3)))
  lis : Rows wr 74 76 (some (w.heap.size + 2)) (w.heap.size + 4) nL 0 fail
  half : Half wr 77 78 (w.heap.size + 3) (w.heap.size + 5 + nL) nC i fail

theorem L2.half {w wr : World} {hc cl fail : Bool} {pb nL nC i : Nat} (h : L2 w wr hc cl fail pb nL nC i) (hi : i < nC) : M2 w (mid wr 78 (w.heap.size + 5 + nL) i fail) hc cl fail pb nL nC i := by
  have hs := h.size
  refine ⟨mid_below h.bel _ (by omega) (by omega) _ _, by rw [mid_size, hs]; omega, ?_, ?_, h.lis.kept fun k hk => ?_, h.part.half (by omega) hi (by omega)⟩
  · rw [mid_block _ _ _ _ _ _ (by omega) (by omega)]; exact h.box
  · rw [mid_block _ _ _ _ _ _ (by omega) (by omega)]; exact h.acc
  · have hk' : w.heap.size + 2 ≤ k ∧ k ≤ w.heap.size + 4 + nL := by
      rcases hk with hk | hk
      · omega
      · simp at hk; omega
    exact mid_block _ _ _ _ _ _ (by omega) (by omega)
theorem M2.drew {w wr : World} {hc cl fail : Bool} {pb nL nC i : Nat} (h : M2 w wr hc cl fail pb nL nC i) : M2 w wr.drew hc cl fail pb nL nC i := ⟨⟨h.bel.os, h.bel.tape, h.bel.output, h.bel.size, h.bel.block⟩, h.size, h.box, h.acc, ⟨h.lis.row, h.lis.obj, h.lis.map⟩, h.half.drew⟩
theorem M2.step {w wr : World} {hc cl fail : Bool} {pb nL nC i : Nat} (h : M2 w wr hc cl fail pb nL nC i) : L2 w (setBlock wr (w.heap.size + 3) (.map (ents 77 (w.heap.size + 5 + nL + 1) (i + 1)) (i + 1))) hc cl fail pb nL nC (i + 1) :=
  ⟨below_setBlock h.bel (by omega) _, by simpa [setBlock] using h.size, (heap_setBlock_other _ (by omega)).trans h.box, (heap_setBlock_other _ (by omega)).trans h.acc, h.lis.kept fun k hk => heap_setBlock_other _ (by
    rcases hk with hk | hk
    · omega
    · simp at hk; omega), h.half.step (by omega)⟩

/-- what build leaves -/
structure Made (w w' : World) (hc cl fail : Bool) (pb : Nat) (lm cm : Option Nat) (S1 n1 S2 n2 : Nat) : Prop where
  bel : Below w.heap.size w w'
  size : w'.heap.size = S2 + 1 + n2
  box : w'.heap[w.heap.size]? = some (boxObj pb)
  acc : w'.heap[w.heap.size + 1]? = some (acc 0 cl (canV hc w.heap.size) lm cm)
  lis : Rows w' 74 76 lm S1 n1 0 fail
  con : Rows w' 77 78 cm S2 n2 0 fail

theorem acc_cells {w : World} {A : Nat} {st : Int} {cl : Bool} {can : Value} {lm cm : Option Nat} (h : w.heap[A]? = some (acc st cl can lm cm)) :
    w.cell? ⟨A, 0, none⟩ = some (.int .i32 st) ∧ w.cell? ⟨A, 2, none⟩ = some (.bool cl) ∧ w.cell? ⟨A, 3, none⟩ = some .nilIface ∧ w.cell? ⟨A, 4, none⟩ = some can ∧ w.cell? ⟨A, 5, none⟩ = some (.map lm) ∧ w.cell? ⟨A, 6, none⟩ = some (.map cm) ∧ w.cell? ⟨A, 7, none⟩ = some (.int .u64 0) ∧ (∀ j, w.frozen? ⟨A, j, none⟩ = false) := by
  refine ⟨?_, ?_, ?_, ?_, ?_, ?_, ?_, fun j => ?_⟩ <;> simp [World.cell?, World.frozen?, h, acc]

/-- after 'if hasCancel' -/
structure C0 (w wr : World) (hc cl : Bool) (pb : Nat) : Prop where
  bel : Below w.heap.size w wr
  size : wr.heap.size = w.heap.size + 2
  box : wr.heap[w.heap.size]? = some (boxObj pb)
  acc : wr.heap[w.heap.size + 1]? = some (acc 0 cl (canV hc w.heap.size) none none)

theorem C0.start (w : World) (hc cl : Bool) (pb : Nat) : C0 w ((w.alloc (boxObj pb)).alloc (C.acc 0 cl (canV hc w.heap.size) none none)) hc cl pb := by
  refine ⟨((Below.refl _ _).alloc (Nat.le_refl _) _).alloc (by simp) _, by simp, ?_, new_at _ _ (by simp)⟩
  rw [Below.heap_alloc _ _ _ (by simp)]; exact new_at _ _ rfl

theorem C0.can {w wr : World} {cl : Bool} {pb : Nat} (h : C0 w wr false cl pb) : C0 w (wr.setCell ⟨w.heap.size + 1, 4, none⟩ (.func (.func 14) #[] #[.pointer (some ⟨w.heap.size, 0, none⟩)])) true cl pb := by
  refine ⟨h.bel.setCell (by show _ ≤ w.heap.size + 1; omega) _, by simp [h.size], ?_, ?_⟩
  · rw [heap_setCell_other (by show _ ≠ w.heap.size + 1; omega)]; exact h.box
  · rw [setCell_heap_same h.acc (by simp)]; rfl

/-- after the maps are made -/
theorem C0.maps {w wr : World} {hc cl : Bool} {pb : Nat} (h : C0 w wr hc cl pb) (fail : Bool) (nL : Nat) :
    L1 w (((((wr.setCell ⟨w.heap.size + 1, 5, none⟩ (.map (some (w.heap.size + 2)))).setCell ⟨w.heap.size + 1, 6, none⟩ (.map (some (w.heap.size + 3)))).alloc (.map #[] 0)).alloc (.map #[] 0)).alloc (.cells (madeP nL) 74)) hc cl fail pb nL 0 := by
  have hs := h.size
  have hne : w.heap.size ≠ w.heap.size + 1 := by omega
  obtain ⟨w1, h1⟩ : ∃ w1, w1 = (wr.setCell ⟨w.heap.size + 1, 5, none⟩ (.map (some (w.heap.size + 2)))).setCell ⟨w.heap.size + 1, 6, none⟩ (.map (some (w.heap.size + 3))) := ⟨_, rfl⟩
  rw [← h1]
  have s1 : w1.heap.size = w.heap.size + 2 := by rw [h1]; simp [hs]
  have b1 : Below w.heap.size w w1 := by rw [h1]; exact (h.bel.setCell (by show _ ≤ w.heap.size + 1; omega) _).setCell (by show _ ≤ w.heap.size + 1; omega) _
  have x1 : w1.heap[w.heap.size]? = some (boxObj pb) := by rw [h1, heap_setCell_other hne, heap_setCell_other hne]; exact h.box
  have a1 : w1.heap[w.heap.size + 1]? = some (C.acc 0 cl (canV hc w.heap.size) (some (w.heap.size + 2)) (some (w.heap.size + 3))) := by
    rw [h1, setCell_heap_same (setCell_heap_same h.acc (by simp) _) (by simp)]; rfl
  clear h1
  obtain ⟨w2, h2⟩ : ∃ w2, w2 = (w1.alloc (.map #[] 0)).alloc (.map #[] 0) := ⟨_, rfl⟩
  rw [← h2]
  have s2 : w2.heap.size = w.heap.size + 4 := by rw [h2]; simp [s1]
  have k2 : ∀ k, k < w.heap.size + 2 → w2.heap[k]? = w1.heap[k]? := fun k hk => by
    rw [h2, Below.heap_alloc _ _ _ (by simp; omega), Below.heap_alloc _ _ _ (by omega)]
  have b2 : Below w.heap.size w w2 := by rw [h2]; exact (b1.alloc (by omega) _).alloc (by simp; omega) _
  have m2 : w2.heap[w.heap.size + 2]? = some (.map #[] 0) := by rw [h2, Below.heap_alloc _ _ _ (by simp; omega)]; exact new_at _ _ s1.symm
  have n2 : w2.heap[w.heap.size + 3]? = some (.map #[] 0) := by rw [h2]; exact new_at _ _ (by simp [s1])
  refine ⟨b2.alloc (by omega) _, by simp [s2], (Below.heap_alloc _ _ _ (by omega)).trans ((k2 _ (by omega)).trans x1), (Below.heap_alloc _ _ _ (by omega)).trans ((k2 _ (by omega)).trans a1), (Below.heap_alloc _ _ _ (by omega)).trans n2, ?_⟩
  have := Part.start (tp := 74) (te := 76) (n := nL) (fail := fail) m2 74
  rwa [s2] at this

set_option maxHeartbeats 8000000 in
theorem build_maps (hc cl fail : Bool) (nL nC pb : Nat) (hL : nL ≤ 4096) (hC : nC ≤ 4096) (w : World) :
    Calls Yba.prog 10 #[.bool hc, .bool cl, .bool false, .bool fail, .int .u16 nL, .int .u16 nC, .pointer (some ⟨pb, 0, none⟩)] w fun e w' =>
      e = .returned (.tuple #[.pointer (some ⟨w.heap.size + 1, 0, none⟩), .slice (some ⟨w.heap.size + 4, 0, none⟩) nL nL, .slice (some ⟨w.heap.size + 5 + nL, 0, none⟩) nC nC]) ∧
      Made w w' hc cl fail pb (some (w.heap.size + 2)) (some (w.heap.size + 3)) (w.heap.size + 4) nL (w.heap.size + 5 + nL) nC := by
  have hmm := @run_makeMap Yba.prog
  have hmk := run_mkL nL (by omega)
  go_enter Yba.func10, Yba.ntmps10
  go_upto_if 25 with fail
  go_cut [26, 27, 28, 29] (fun _ _ _ _ wc => C0 w wc hc cl pb)
  case first =>
    cases hc
    · go_wp2
      go_meet
      case rel => exact C0.start w false cl pb
    · have hC0 := C0.start w false cl pb
      obtain ⟨W, hW⟩ : ∃ W, W = (w.alloc (.cells #[.pointer (some ⟨pb, 0, none⟩)] 53)).alloc (.cells #[.int .i32 0, .int .u32 0, .bool cl, .nilIface, .nilFunc, .map none, .map none, .int .u64 0, .int .u32 0] 70) := ⟨_, rfl⟩
      rw [← hW]
      have HC0 : Hid (C0 w W false cl pb) := by rw [hW]; exact hC0
      clear hC0 hW
      obtain ⟨_, _, _, c4, _, _, _, fz⟩ := acc_cells HC0.out.acc
      have f4 := fz 4
      clear fz
      go_wp2
      go_meet
      case rel => exact HC0.out.can
  case rest =>
    have HC : Hid (C0 w wc hc cl pb) := hcut
    obtain ⟨_, _, _, _, c5, c6, _, fz⟩ := acc_cells hcut.acc
    have f5 := fz 5
    have f6 := fz 6
    have hsz : w.heap.size + 1 < wc.heap.size := by rw [hcut.size]; omega
    have d6 : (((wc.setCell ⟨w.heap.size + 1, 5, none⟩ (.map (some wc.heap.size))).alloc (.map #[] 0)).alloc (.map #[] 0)).cell? ⟨w.heap.size + 1, 6, none⟩ = some (.map none) := by
      rw [World.cell?_alloc_lt _ _ _ (by simp; omega), World.cell?_alloc_lt _ _ _ (by simpa using hsz), World.cell?_setCell_other _ _ _ _ (by simp)]; exact c6
    have g6 : (((wc.setCell ⟨w.heap.size + 1, 5, none⟩ (.map (some wc.heap.size))).alloc (.map #[] 0)).alloc (.map #[] 0)).frozen? ⟨w.heap.size + 1, 6, none⟩ = false := by
      rw [World.frozen?_of_block (Below.heap_alloc _ _ _ (by simp; omega)), World.frozen?_of_block (Below.heap_alloc _ _ _ (by simpa using hsz)), World.frozen?_setCell]; exact f6
    have HL : Hid (L1 w _ hc cl fail pb nL 0) := hcut.maps fail nL
    have hes : wc.heap.size = w.heap.size + 2 := hcut.size
    clear fz hcut
    go_wp2
    clear c5 c6 f5 f6 hsz d6 g6 hmk hmm
    clear hes
    rw [show w.heap.size + 2 + 1 + 1 = w.heap.size + 4 from rfl]
    go_loopw [19] (fun i wr => ∃ k : Nat, k ≤ nL ∧ i = .int .i64 k ∧ L1 w wr hc cl fail pb nL k) (fun i _ => nL - (intOf i).toNat)
    case atStart =>
      exact ⟨0, Nat.zero_le _, rfl, HL.out⟩
    case round =>
      obtain ⟨k, hk, rfl, hL1⟩ := hrel
      have HL1 : Hid (L1 w wr hc cl fail pb nL k) := hL1
      by_cases hlt : k < nL
      · obtain ⟨u, hu⟩ := hL1.part.cell hlt
        have hfr := hL1.part.free hlt
        have hsz : w.heap.size + 4 < wr.heap.size := by rw [hL1.size]; omega
        have HM : Hid (M1 w (mid wr 76 (w.heap.size + 4) k fail) hc cl fail pb nL k) := hL1.half hlt
        clear hL1
        go_wp2
        clear hu hfr hsz
        rw [show World.alloc (World.setCell wr ⟨w.heap.size + 4, k, none⟩ (.pointer (some ⟨wr.heap.size, 0, none⟩))) (.cells #[.int .i64 0, .bool fail] 76) = mid wr 76 (w.heap.size + 4) k fail from rfl]
        obtain ⟨W2, hW2⟩ : ∃ W2, W2 = mid wr 76 (w.heap.size + 4) k fail := ⟨_, rfl⟩
        rw [← hW2] at HM ⊢
        clear hW2
        obtain ⟨_, _, _, _, c5, _, _, _⟩ := acc_cells HM.out.acc
        have cr := HM.out.half.row k (by omega)
        unfold ptr at cr
        have hput := HM.out.drew.half.put tiesL
        have HN : Hid (L1 w _ hc cl fail pb nL (k + 1)) := HM.out.drew.step
        go_still_tail 9, (by kernel_rfl)
        clear c5 cr
        go_wp2
        go_roundw
        case rel => exact ⟨k + 1, by omega, by go_num, HN.out⟩
        case measure => simp [intOf]; omega
      · have hkn : k = nL := by omega
        subst hkn
        have hmk := run_mkC nC (by omega)
        have HL2 : Hid (L2 w _ hc cl fail pb k nC 0) := hL1.next nC
        have hsz : wr.heap.size = w.heap.size + 5 + k := by have := hL1.size; omega
        clear hL1
        go_wp2
        clear hsz hmk
        go_loopg [21] nC (fun g i wq => ∃ m : Nat, m ≤ nC ∧ g = nC - m ∧ i = .int .i64 m ∧ L2 w wq hc cl fail pb k nC m)
        case atStart => exact ⟨0, Nat.zero_le _, rfl, rfl, HL2.out⟩
        case round =>
          clear HL2
          obtain ⟨m, hm, rfl, rfl, hL2⟩ := hrel
          have HL2 : Hid (L2 w wr hc cl fail pb k nC m) := hL2
          by_cases hlt : m < nC
          · obtain ⟨u, hu⟩ := hL2.part.cell hlt
            have hfr := hL2.part.free hlt
            have hsz : w.heap.size + 5 + k < wr.heap.size := by rw [hL2.size]; omega
            have HM : Hid (M2 w (mid wr 78 (w.heap.size + 5 + k) m fail) hc cl fail pb k nC m) := hL2.half hlt
            clear hL2
            go_wp2
            clear hu hfr hsz
            rw [show World.alloc (World.setCell wr ⟨w.heap.size + 5 + k, m, none⟩ (.pointer (some ⟨wr.heap.size, 0, none⟩))) (.cells #[.int .i64 0, .bool fail] 78) = mid wr 78 (w.heap.size + 5 + k) m fail from rfl]
            obtain ⟨W2, hW2⟩ : ∃ W2, W2 = mid wr 78 (w.heap.size + 5 + k) m fail := ⟨_, rfl⟩
            rw [← hW2] at HM ⊢
            clear hW2
            obtain ⟨_, _, _, _, _, c6, _, _⟩ := acc_cells HM.out.acc
            have cr := HM.out.half.row m (by omega)
            unfold ptr at cr
            have hput := HM.out.drew.half.put tiesC
            have HN : Hid (L2 w _ hc cl fail pb k nC (m + 1)) := HM.out.drew.step
            go_still_tail 9, (by kernel_rfl)
            clear c6 cr
            go_wp2
            go_roundg (nC - (m + 1))
            case measure => omega
            case rel => exact ⟨m + 1, by omega, rfl, by go_num, HN.out⟩
          · have hkn : m = nC := by omega
            subst hkn
            clear hL2
            go_wp2
            go_ret3
            have h := HL2.out
            exact ⟨rfl, h.bel, h.size, h.box, h.acc, h.lis, h.part.rows⟩

theorem C0.nils {w wr : World} {hc cl : Bool} {pb : Nat} (h : C0 w wr hc cl pb) (fail : Bool) : Made w ((wr.alloc (.cells (madeP 0) 74)).alloc (.cells (madeP 0) 77)) hc cl fail pb none none (w.heap.size + 2) 0 (w.heap.size + 3) 0 := by
  have hs := h.size
  refine ⟨(h.bel.alloc (by omega) _).alloc (by simp; omega) _, by simp [hs], ?_, ?_, ⟨fun j hj => absurd hj (Nat.not_lt_zero _), fun j hj => absurd hj (Nat.not_lt_zero _), nofun⟩, ⟨fun j hj => absurd hj (Nat.not_lt_zero _), fun j hj => absurd hj (Nat.not_lt_zero _), nofun⟩⟩
  · rw [Below.heap_alloc _ _ _ (by simp; omega), Below.heap_alloc _ _ _ (by omega)]; exact h.box
  · rw [Below.heap_alloc _ _ _ (by simp; omega), Below.heap_alloc _ _ _ (by omega)]; exact h.acc

set_option maxHeartbeats 8000000 in
theorem build_nil (hc cl fail : Bool) (nL nC : Int) (pb : Nat) (w : World) :
    Calls Yba.prog 10 #[.bool hc, .bool cl, .bool true, .bool fail, .int .u16 nL, .int .u16 nC, .pointer (some ⟨pb, 0, none⟩)] w fun e w' =>
      e = .returned (.tuple #[.pointer (some ⟨w.heap.size + 1, 0, none⟩), .slice (some ⟨w.heap.size + 2, 0, none⟩) 0 0, .slice (some ⟨w.heap.size + 3, 0, none⟩) 0 0]) ∧
      Made w w' hc cl fail pb none none (w.heap.size + 2) 0 (w.heap.size + 3) 0 := by
  have hmk : ∀ w : World, (Instr.makeSlice 49 (.int .i64 0) (.int .i64 0)).run Yba.prog w = .ok (.slice (some ⟨w.heap.size, 0, none⟩) 0 0) (w.alloc (.cells (madeP 0) 74)) := run_mkL 0 (by omega)
  have hmk2 : ∀ w : World, (Instr.makeSlice 50 (.int .i64 0) (.int .i64 0)).run Yba.prog w = .ok (.slice (some ⟨w.heap.size, 0, none⟩) 0 0) (w.alloc (.cells (madeP 0) 77)) := run_mkC 0 (by omega)
  go_enter Yba.func10, Yba.ntmps10
  go_upto_if 25 with fail
  go_cut [26, 27, 28, 29] (fun _ _ _ _ wc => C0 w wc hc cl pb)
  case first =>
    cases hc
    · go_wp2
      go_meet
      case rel => exact C0.start w false cl pb
    · have hC0 := C0.start w false cl pb
      obtain ⟨W, hW⟩ : ∃ W, W = (w.alloc (.cells #[.pointer (some ⟨pb, 0, none⟩)] 53)).alloc (.cells #[.int .i32 0, .int .u32 0, .bool cl, .nilIface, .nilFunc, .map none, .map none, .int .u64 0, .int .u32 0] 70) := ⟨_, rfl⟩
      rw [← hW]
      have HC0 : Hid (C0 w W false cl pb) := by rw [hW]; exact hC0
      clear hC0 hW
      obtain ⟨_, _, _, c4, _, _, _, fz⟩ := acc_cells HC0.out.acc
      have f4 := fz 4
      clear fz
      go_wp2
      go_meet
      case rel => exact HC0.out.can
  case rest =>
    have HM : Hid (Made w _ hc cl fail pb none none (w.heap.size + 2) 0 (w.heap.size + 3) 0) := hcut.nils fail
    have hes : wc.heap.size = w.heap.size + 2 := hcut.size
    clear hcut
    go_wp2
    refine wp_loop_rounds 1 ?_
    show Code.wp _ _ _ _ _
    go_wp2
    refine wp_loop_rounds 1 ?_
    show Code.wp _ _ _ _ _
    go_wp2
    go_ret3
    exact ⟨rfl, HM.out⟩
end Go.Proofs.Ybulkdnus.C
