import Derived.Test.YbulkdnueBMain
import Derived.Deep.MidRow
import Derived.LaidEqlPtr
namespace Go.Proofs.Ybulkdnue
open Go.RowKit

def made5 (n : Nat) : Array Value := madeCells #[.int .u8 0] n

theorem run_mk5 (n : Nat) (hn : n ≤ 1048576) (w : World) : (Instr.makeSlice 22 (.int .i64 n) (.int .i64 n)).run Yba.prog w = .ok (.slice (some ⟨w.heap.size, 0, none⟩) n n) (w.alloc (.cells (made5 n) 5)) := by
  obtain ⟨i, hi, hz0, hz1, hz2⟩ := info_parts info5
  have := run_make (P := Yba.prog) w 22 5 i (.int .u8 0) Yba.underlying22 hi hz0 .i64 .i64 n n (by omega) (by omega) (by rw [hz2]; omega) (by omega)
  rw [this, hz1]; simp [made5, Value.cells]

/-- what holds of the world while the text is filled -/
structure Fills (w wr : World) (n k : Nat) (Z : Nat → Int) : Prop where
  bel : Below w.heap.size w wr
  lt : w.heap.size < wr.heap.size
  row : ∀ i, i < k → wr.cell? ⟨w.heap.size, i, none⟩ = some (.int .u8 (Z i))
  room : wr.there w.heap.size 0 n

theorem Fills.start (w : World) (n : Nat) (Z : Nat → Int) : Fills w (w.alloc (.cells (made5 n) 5)) n 0 Z where
  bel := (Below.refl _ _).alloc (Nat.le_refl _) _
  lt := by simp
  row := fun i hi => absurd hi (Nat.not_lt_zero _)
  room := fun j hj => by
    refine ⟨?_, World.frozen?_alloc_new w _ _ _⟩
    rw [World.cell?, heap_alloc_new]
    have : (0 + j) < (made5 n).size := by rw [made5, size_madeCells]; omega
    show ((made5 n)[0 + j]?).isSome = true
    rw [Array.getElem?_eq_getElem this]; rfl

theorem Fills.cell {w wr : World} {n k : Nat} {Z : Nat → Int} (h : Fills w wr n k Z) (hk : k < n) : ∃ u, wr.cell? ⟨w.heap.size, k, none⟩ = some u := by
  have := (h.room k hk).1
  rw [Nat.zero_add] at this
  exact Option.isSome_iff_exists.1 this
theorem Fills.free {w wr : World} {n k : Nat} {Z : Nat → Int} (h : Fills w wr n k Z) (hk : k < n) : wr.frozen? ⟨w.heap.size, k, none⟩ = false := by
  have := (h.room k hk).2
  rwa [Nat.zero_add] at this

theorem Fills.step {w wr : World} {n k : Nat} {Z : Nat → Int} (h : Fills w wr n k Z) (hk : k < n) : Fills w (wr.setCell ⟨w.heap.size, k, none⟩ (.int .u8 (Z k))) n (k + 1) Z where
  bel := h.bel.setCell (Nat.le_refl _) _
  lt := by simpa using h.lt
  row := fun i hi => by
    obtain ⟨u, hu⟩ := h.cell hk
    by_cases e : i = k
    · subst e; rw [World.cell?_setCell_same _ _ _ hu]
    · rw [World.cell?_setCell_other _ _ _ _ (by simp only [ne_eq, Addr.mk.injEq]; omega)]; exact h.row i (by omega)
  room := World.there_setCells h.room w.heap.size k [.int .u8 (Z k)]

theorem Cloned.later {w w' w'' : World} {g n cap : Nat} {Z : Nat → Int} (h : Cloned w w' g n cap Z) (hb : Below w'.heap.size w' w'') : Cloned w w'' g n cap Z where
  le := h.le
  max := h.max
  lo := h.lo
  hi := Nat.lt_of_lt_of_le h.hi hb.size
  cell := fun i hi => (hb.cell (p := ⟨g, i, none⟩) h.hi).trans (h.cell i hi)
  bel := h.bel.trans (hb.mono h.bel.size)

def tb : List Int := [34, 92, 34, 110, 117, 48, 97, 70, 32, 9, 1, 120, 98, 47, 34]
def tbv (c : Int) : Int := tb.getD (c % 15).toNat 0

theorem tbv_range (c : Int) : 0 ≤ tbv c ∧ tbv c ≤ 255 := by
  unfold tbv
  have h1 : 0 ≤ c % 15 := Int.emod_nonneg _ (by omega)
  have h2 : c % 15 < 15 := Int.emod_lt_of_pos _ (by omega)
  generalize hk : (c % 15).toNat = k
  have hk' : k < 15 := by omega
  have : ∀ k, k < 15 → 0 ≤ tb.getD k 0 ∧ tb.getD k 0 ≤ 255 := by decide
  exact this k hk'

theorem tb_at (c : Int) (h : (c % 15).toNat < (ByteArray.mk #[34, 92, 34, 110, 117, 48, 97, 70, 32, 9, 1, 120, 98, 47, 34]).size) :
    (((ByteArray.mk #[34, 92, 34, 110, 117, 48, 97, 70, 32, 9, 1, 120, 98, 47, 34])[(c % 15).toNat]'h).toNat : Int) = tbv c := by
  unfold tbv
  revert h
  generalize (c % 15).toNat = k
  intro h
  have hk' : k < 15 := h
  have : ∀ k (h : k < 15), ((#[34, 92, 34, 110, 117, 48, 97, 70, 32, 9, 1, 120, 98, 47, 34] : Array UInt8)[k]'h).toNat = (tb.getD k 0) := by decide
  exact this k hk'

set_option maxRecDepth 100000 in
set_option maxHeartbeats 800000 in
theorem walk_map (b off n cap : Nat) (Y : Nat → Int) (at' : Int) (w : World) (hc : ∀ i, i < n → w.cell? ⟨b, off + i, none⟩ = some (.int .u8 (Y i))) (hn : 0 < n) (hm : n ≤ 1048576)
    (hcap : n ≤ cap) (hmax : cap ≤ 9223372036854775807) (hr : ∀ i, 0 ≤ Y i ∧ Y i ≤ 255) (ha0 : 0 ≤ at') (ha1 : at' ≤ 18446744073709551615) :
    Calls Yba.prog 3 #[.slice (some ⟨b, off, none⟩) n cap, .bool true, .int .u64 at'] w fun e w' => e = .returned (.bool true) ∧ Below w.heap.size w w' := by
  have hq := eql_nil
  have hp34 := neq34_same
  obtain ⟨Z, hZ⟩ : ∃ Z : Nat → Int, Z = fun j => tbv (Y j) := ⟨_, rfl⟩
  have hrZ : ∀ i, 0 ≤ Z i ∧ Z i ≤ 255 := fun i => by rw [hZ]; exact tbv_range _
  have HZE : Hid (∀ i, Z i = tbv (Y i)) := fun i => by rw [hZ]
  clear hZ
  have hmk := run_mk5 n hm
  have hbw : b < w.heap.size := World.block_lt_of_cell? w _ (hc 0 hn)
  have hcl := clone_full b off n cap Y w hc hn hm
  have HC : Hid (∀ i, i < n → w.cell? ⟨b, off + i, none⟩ = some (.int .u8 (Y i))) := hc
  clear hc
  go_enter Yba.func3, Yba.ntmps3
  go_wp2_with fail
  refine hcl.mono ?_
  clear hcl
  rintro e w1 ⟨gs, cs, rfl, hsnap⟩
  have HSN : Hid (Cloned w w1 gs n cs Y) := hsnap
  clear hsnap
  go_wp2
  go_loopw [10] (fun i wr => ∃ k : Nat, k ≤ n ∧ i = .int .i64 k ∧ Fills w1 wr n k Z) (fun i _ => n - (intOf i).toNat)
  case atStart => exact ⟨0, Nat.zero_le _, rfl, Fills.start w1 n _⟩
  case round =>
    obtain ⟨k, hk, rfl, hF⟩ := hrel
    have HFL : Hid (Fills w1 wr n k Z) := hF
    clear hF
    by_cases hlt : k < n
    · have ck : wr.cell? ⟨b, off + k, none⟩ = some (.int .u8 (Y k)) := (HFL.out.bel.cell (p := ⟨b, off + k, none⟩) (Nat.lt_of_lt_of_le hbw HSN.out.bel.size)).trans ((HSN.out.bel.cell (p := ⟨b, off + k, none⟩) hbw).trans (HC.out k hlt))
      obtain ⟨u, hu⟩ := HFL.out.cell hlt
      have hfr := HFL.out.free hlt
      obtain ⟨hr1, hr2⟩ := hr k
      go_wp2
      go_roundw
      case rel =>
        refine ⟨_, _, _, _, _, _, _, _, _, _, _, _, _, _, _, _, _, _, _, _, ⟨k + 1, by omega, ?_, ?_⟩, rfl⟩
        · go_num
        · rw [tb_at, ← HZE.out k]; exact HFL.out.step hlt
      case measure => simp [intOf]; omega
    · have hkn : k = n := by omega
      subst hkn
      clear hmk
      have HSN' : Hid (Cloned w wr gs k cs Y) := HSN.out.later HFL.out.bel
      have HT : Hid (∀ i, i < k → wr.cell? ⟨w1.heap.size, i, none⟩ = some (.int .u8 (Z i))) := HFL.out.row
      have hT1 : w1.heap.size < wr.heap.size := HFL.out.lt
      clear HSN HFL
      have HSN : Hid (Cloned w wr gs k cs Y) := HSN'.out
      clear HSN'
      generalize w1.heap.size = T1 at *
      go_wp2_with fail
      have hcl2 := clone_full T1 0 k k Z wr (fun i hi => by rw [Nat.zero_add]; exact HT.out i hi) hn hm
      refine hcl2.mono ?_
      clear hcl2
      rintro e w2 ⟨g2, c2, rfl, href⟩
      have HRF : Hid (Cloned wr w2 g2 k c2 Z) := href
      clear href
      go_wp2_with fail
      obtain ⟨pl, hpl, hpn⟩ := place at' k hm
      rw [hpl]
      clear hpl ha0 ha1
      have hmod := model_any g2 0 k c2 pl Z w2 (fun i hi => by rw [Nat.zero_add]; exact HRF.out.cell i hi) hpn hm HRF.out.le (by have := HRF.out.max; unfold maxLen at this; omega)
      have hcz : ∀ i, i < k → w2.cell? ⟨T1, i, none⟩ = some (.int .u8 (Z i)) := fun i hi => (HRF.out.bel.cell (p := ⟨T1, i, none⟩) hT1).trans (HT.out i hi)
      have hbw2 : T1 < w2.heap.size := Nat.lt_of_lt_of_le hT1 HRF.out.bel.size
      have hcr : ∀ i, i < k → w2.cell? ⟨b, off + i, none⟩ = some (.int .u8 (Y i)) := fun i hi => (HRF.out.bel.cell (p := ⟨b, off + i, none⟩) (Nat.lt_of_lt_of_le hbw HSN.out.bel.size)).trans ((HSN.out.bel.cell (p := ⟨b, off + i, none⟩) hbw).trans (HC.out i hi))
      have hbr2 : b < w2.heap.size := Nat.lt_of_lt_of_le hbw (Nat.le_trans HSN.out.bel.size HRF.out.bel.size)
      have hal : Below w2.heap.size w2 (w2.alloc (.cells #[.slice (some ⟨T1, 0, none⟩) k k, .int .i64 pl] 30)) := (Below.refl _ _).alloc (Nat.le_refl _) _
      have hstr := str_any T1 0 k k w2.heap.size pl Z (w2.alloc (.cells #[.slice (some ⟨T1, 0, none⟩) k k, .int .i64 pl] 30)) (fun i hi => by rw [Nat.zero_add]; exact (hal.cell (p := ⟨T1, i, none⟩) hbw2).trans (hcz i hi)) hbw2 (scn_new _ _ _) hpn hm (Nat.le_refl _) (by omega) hrZ
      unfold ModelPost at hmod
      unfold StrPost at hstr
      simp only [Nat.zero_add] at hmod hstr
      have hskb := skip_le Z k k pl hpn
      have hfb : ∀ q, fin Z k pl = some q → skip Z k k pl + 1 < q ∧ q ≤ k := fun q h => by
        unfold fin at h
        split at h
        · exact scan_bounds _ _ _ h
        · cases h
      generalize skip Z k k pl = p at *
      obtain ⟨hsk1, hsk2⟩ := hskb
      cases hF : fin Z k pl with
      | none =>
        have hmod' : Calls Yba.prog 7 #[.slice (some ⟨g2, 0, none⟩) k c2, .int .i64 pl] w2 fun e w' => e = .returned (.tuple #[.slice none 0 0, .bool false, .int .i64 p]) ∧ w' = w2 := by
          refine hmod.mono ?_
          rintro e w' ⟨rfl, ⟨_, rfl⟩ | ⟨q, hq', _⟩⟩
          · exact ⟨rfl, rfl⟩
          · rw [hF] at hq'; cases hq'
        have hstr' : Calls Yba.prog 8 #[.pointer (some ⟨w2.heap.size, 0, none⟩)] (w2.alloc (.cells #[.slice (some ⟨T1, 0, none⟩) k k, .int .i64 pl] 30)) fun e w' =>
            e = .returned (.tuple #[.slice none 0 0, .bool false]) ∧ Scn w' w2.heap.size (.slice (some ⟨T1, 0, none⟩) k k) p ∧ Below w2.heap.size (w2.alloc (.cells #[.slice (some ⟨T1, 0, none⟩) k k, .int .i64 pl] 30)) w' := by
          refine hstr.mono ?_
          rintro e w' (⟨_, rfl, h1, h2⟩ | ⟨q, hq', _⟩)
          · exact ⟨rfl, h1, h2⟩
          · rw [hF] at hq'; cases hq'
        clear hmod hstr hfb hF
        refine hmod'.mono ?_
        clear hmod'
        rintro e w2 ⟨rfl, rfl⟩
        go_wp2_with fail
        refine hstr'.mono ?_
        clear hstr'
        rintro e w3 ⟨rfl, hs3, hb3⟩
        have HB3 : Hid (Below _ w2 w3) := hal.trans hb3
        have HZ3 : Hid (∀ i, i < k → w3.cell? ⟨T1, 0 + i, none⟩ = some (.int .u8 (Z i))) := fun i hi => by rw [Nat.zero_add]; exact (HB3.out.cell (p := ⟨T1, i, none⟩) hbw2).trans (hcz i hi)
        have HR3 : Hid (∀ i, i < k → w3.cell? ⟨b, off + i, none⟩ = some (.int .u8 (Y i))) := fun i hi => (HB3.out.cell (p := ⟨b, off + i, none⟩) hbr2).trans (hcr i hi)
        have HG3 : Hid (∀ i, i < k → w3.cell? ⟨g2, 0 + i, none⟩ = some (.int .u8 (Z i))) := fun i hi => by rw [Nat.zero_add]; exact (HB3.out.cell (p := ⟨g2, i, none⟩) HRF.out.hi).trans (HRF.out.cell i hi)
        have HS3 : Hid (∀ i, i < k → w3.cell? ⟨gs, 0 + i, none⟩ = some (.int .u8 (Y i))) := fun i hi => by
          rw [Nat.zero_add]
          exact (HB3.out.cell (p := ⟨gs, i, none⟩) (Nat.lt_of_lt_of_le HSN.out.hi HRF.out.bel.size)).trans ((HRF.out.bel.cell (p := ⟨gs, i, none⟩) HSN.out.hi).trans (HSN.out.cell i hi))
        have HBB : Hid (Below w.heap.size w w3) := (HSN.out.bel.trans (HRF.out.bel.mono HSN.out.bel.size)).trans (HB3.out.mono (Nat.le_trans HSN.out.bel.size HRF.out.bel.size))
        obtain ⟨c0, c1, f1⟩ := hs3
        clear HSN HRF hcz hal hb3 HB3 f1 HT hcr
        have hn1 : (0 : Int) < (k : Int) := by omega
        go_wp2_with fail
        go_quiet (fail)
        go_wp2_with fail
        refine (equal_same _ _ (bstr Z k) _ (conv_at T1 0 k k Z _ (fun i hi => by simpa using HZ3.out i hi)) (conv_at g2 0 k c2 Z _ (fun i hi => by simpa using HG3.out i hi))).mono ?_
        rintro e w4 ⟨rfl, rfl⟩
        go_wp2_with fail
        refine (equal_same _ _ (bstr Y k) _ (conv_at b off k cap Y _ (fun i hi => by simpa using HR3.out i hi)) (conv_at gs 0 k cs Y _ (fun i hi => by simpa using HS3.out i hi))).mono ?_
        rintro e w5 ⟨rfl, rfl⟩
        go_wp2_with fail
        go_ret
        exact ⟨rfl, below_drewN HBB.out _⟩
      | some q =>
        obtain ⟨hq1, hq2⟩ := hfb q hF
        have hmod' : Calls Yba.prog 7 #[.slice (some ⟨g2, 0, none⟩) k c2, .int .i64 pl] w2 fun e w' => e = .returned (.tuple #[.slice (some ⟨g2, p, none⟩) (q - p) (c2 - p), .bool true, .int .i64 q]) ∧ w' = w2 := by
          refine hmod.mono ?_
          rintro e w' ⟨rfl, ⟨hq', _⟩ | ⟨q', hq', rfl⟩⟩
          · rw [hF] at hq'; cases hq'
          · rw [hF] at hq'; cases hq'; exact ⟨rfl, rfl⟩
        have hstr' : Calls Yba.prog 8 #[.pointer (some ⟨w2.heap.size, 0, none⟩)] (w2.alloc (.cells #[.slice (some ⟨T1, 0, none⟩) k k, .int .i64 pl] 30)) fun e w' =>
            e = .returned (.tuple #[.slice (some ⟨T1, p, none⟩) (q - p) (k - p), .bool true]) ∧ Scn w' w2.heap.size (.slice (some ⟨T1, 0, none⟩) k k) q ∧ Below w2.heap.size (w2.alloc (.cells #[.slice (some ⟨T1, 0, none⟩) k k, .int .i64 pl] 30)) w' := by
          refine hstr.mono ?_
          rintro e w' (⟨hq', _⟩ | ⟨q', hq', rfl, h1, h2⟩)
          · rw [hF] at hq'; cases hq'
          · rw [hF] at hq'; cases hq'; exact ⟨rfl, h1, h2⟩
        clear hmod hstr hfb hF
        refine hmod'.mono ?_
        clear hmod'
        rintro e w2 ⟨rfl, rfl⟩
        go_wp2_with fail
        refine hstr'.mono ?_
        clear hstr'
        rintro e w3 ⟨rfl, hs3, hb3⟩
        have HB3 : Hid (Below _ w2 w3) := hal.trans hb3
        have HZ3 : Hid (∀ i, i < k → w3.cell? ⟨T1, 0 + i, none⟩ = some (.int .u8 (Z i))) := fun i hi => by rw [Nat.zero_add]; exact (HB3.out.cell (p := ⟨T1, i, none⟩) hbw2).trans (hcz i hi)
        have HR3 : Hid (∀ i, i < k → w3.cell? ⟨b, off + i, none⟩ = some (.int .u8 (Y i))) := fun i hi => (HB3.out.cell (p := ⟨b, off + i, none⟩) hbr2).trans (hcr i hi)
        have HG3 : Hid (∀ i, i < k → w3.cell? ⟨g2, 0 + i, none⟩ = some (.int .u8 (Z i))) := fun i hi => by rw [Nat.zero_add]; exact (HB3.out.cell (p := ⟨g2, i, none⟩) HRF.out.hi).trans (HRF.out.cell i hi)
        have HS3 : Hid (∀ i, i < k → w3.cell? ⟨gs, 0 + i, none⟩ = some (.int .u8 (Y i))) := fun i hi => by
          rw [Nat.zero_add]
          exact (HB3.out.cell (p := ⟨gs, i, none⟩) (Nat.lt_of_lt_of_le HSN.out.hi HRF.out.bel.size)).trans ((HRF.out.bel.cell (p := ⟨gs, i, none⟩) HSN.out.hi).trans (HSN.out.cell i hi))
        have HBB : Hid (Below w.heap.size w w3) := (HSN.out.bel.trans (HRF.out.bel.mono HSN.out.bel.size)).trans (HB3.out.mono (Nat.le_trans HSN.out.bel.size HRF.out.bel.size))
        obtain ⟨c0, c1, f1⟩ := hs3
        clear HSN HRF hcz hal hb3 HB3 f1 HT hcr
        have hn1 : (0 : Int) < (k : Int) := by omega
        obtain ⟨kk, hk⟩ : ∃ kk : Nat, q = p + kk := ⟨q - p, by omega⟩
        subst hk
        rw [show p + kk - p = kk by omega]
        have hk0 : 0 < kk := by omega
        have i1 : (0 : Int) < (kk : Int) := by omega
        have hkp : ((p + kk : Nat) : Int) = (p : Int) + (kk : Int) := by omega
        rw [hkp] at c1 ⊢
        clear hkp
        go_wp2_with fail
        refine (equal_same _ _ (bstr (fun i => Z (p + i)) kk) _ (conv_at T1 p kk (k - p) (fun i => Z (p + i)) _ (fun i hi => by have := HZ3.out (p + i) (by omega); rwa [Nat.zero_add] at this)) (conv_at g2 p kk (c2 - p) (fun i => Z (p + i)) _ (fun i hi => by have := HG3.out (p + i) (by omega); rwa [Nat.zero_add] at this))).mono ?_
        rintro e w3 ⟨rfl, rfl⟩
        have p0 : (0 : Int) ≤ (p : Int) := by omega
        have p1 : (p : Int) < (k : Int) := by omega
        go_wp2_with fail
        go_quiet (fail)
        go_wp2_with fail
        go_quiet (fail)
        go_wp2_with fail
        refine (equal_same _ _ (bstr Z k) _ (conv_at T1 0 k k Z _ (fun i hi => by simpa using HZ3.out i hi)) (conv_at g2 0 k c2 Z _ (fun i hi => by simpa using HG3.out i hi))).mono ?_
        rintro e w4 ⟨rfl, rfl⟩
        go_wp2_with fail
        refine (equal_same _ _ (bstr Y k) _ (conv_at b off k cap Y _ (fun i hi => by simpa using HR3.out i hi)) (conv_at gs 0 k cs Y _ (fun i hi => by simpa using HS3.out i hi))).mono ?_
        rintro e w5 ⟨rfl, rfl⟩
        go_wp2_with fail
        go_ret
        exact ⟨rfl, below_drewN HBB.out _⟩
end Go.Proofs.Ybulkdnue
