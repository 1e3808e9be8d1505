import Derived.Test.YbulkdnueBModel
import Derived.Test.YbulkdnueBClone
import Derived.LaidEqlPtr
namespace Go.Proofs.Ybulkdnue
open Go.RowKit

theorem neq34_same (a : Addr) (w : World) : (binOp .neq 34 (.pointer (some a)) (.pointer (some a))).run Yba.prog w = .ok (.bool false) w := by
  obtain ⟨i, hi, _⟩ := info_parts info5
  have h : ∀ d : Nat, (Op.equalIn (d + 1) 34 (.pointer (some a)) (.pointer (some a))).run Yba.prog w = .ok true w := fun d => by
    simp [Op.equalIn, run_underlying Yba.underlying34, sizeOf, typeInfo, hi, run_sameAddr_same]
  simp only [binOp]
  simp [Op.equal, Op.maxDepth, h 9999]

theorem place (a : Int) (n : Nat) (hn : n ≤ 1048576) : ∃ pl : Nat, wrap64 (a % ((n : Int) + 1)) = (pl : Int) ∧ pl ≤ n := by
  have h1 : 0 ≤ a % ((n : Int) + 1) := Int.emod_nonneg _ (by omega)
  have h2 : a % ((n : Int) + 1) < (n : Int) + 1 := Int.emod_lt_of_pos _ (by omega)
  refine ⟨(a % ((n : Int) + 1)).toNat, ?_, by omega⟩
  unfold wrap64
  omega

theorem scn_new (w : World) (v : Value) (pl : Nat) : Scn (w.alloc (.cells #[v, .int .i64 pl] 30)) w.heap.size v pl :=
  ⟨by simp, by simp, by simp⟩

set_option maxRecDepth 100000 in
set_option maxHeartbeats 800000 in
theorem walk_raw (b off n cap : Nat) (Z : Nat → Int) (at' : Int) (w : World) (hc : ∀ i, i < n → w.cell? ⟨b, off + i, none⟩ = some (.int .u8 (Z i))) (hn : 0 < n) (hm : n ≤ 1048576)
    (hcap : n ≤ cap) (hmax : cap ≤ 9223372036854775807) (hr : ∀ i, 0 ≤ Z i ∧ Z i ≤ 255) (ha0 : 0 ≤ at') (ha1 : at' ≤ 18446744073709551615) :
    Calls Yba.prog 3 #[.slice (some ⟨b, off, none⟩) n cap, .bool false, .int .u64 at'] w fun e w' => e = .returned (.bool true) ∧ Below w.heap.size w w' := by
  have hq := eql_nil
  have hp34 := neq34_same
  have hbw : b < w.heap.size := World.block_lt_of_cell? w _ (hc 0 hn)
  have hcl := clone_full b off n cap Z w hc hn hm
  have HC : Hid (∀ i, i < n → w.cell? ⟨b, off + i, none⟩ = some (.int .u8 (Z i))) := hc
  clear hc
  go_enter Yba.func3, Yba.ntmps3
  go_wp2_with fail
  refine hcl.mono ?_
  clear hcl
  rintro e w1 ⟨gs, cs, rfl, hsnap⟩
  have HSN : Hid (Cloned w w1 gs n cs Z) := hsnap
  clear hsnap
  go_wp2_with fail
  have hcl2 := clone_full b off n cap Z w1 (fun i hi => (HSN.out.bel.cell (p := ⟨b, off + i, none⟩) hbw).trans (HC.out i hi)) hn hm
  refine hcl2.mono ?_
  clear hcl2
  rintro e w2 ⟨g2, c2, rfl, href⟩
  have HRF : Hid (Cloned w1 w2 g2 n c2 Z) := href
  clear href
  go_wp2_with fail
  obtain ⟨pl, hpl, hpn⟩ := place at' n hm
  rw [hpl]
  clear hpl ha0 ha1
  have hmod := model_any g2 0 n c2 pl Z w2 (fun i hi => by rw [Nat.zero_add]; exact HRF.out.cell i hi) hpn hm HRF.out.le (by have := HRF.out.max; unfold maxLen at this; omega)
  have hcz : ∀ i, i < n → w2.cell? ⟨b, off + i, none⟩ = some (.int .u8 (Z i)) := fun i hi => (HRF.out.bel.cell (p := ⟨b, off + i, none⟩) (Nat.lt_of_lt_of_le hbw HSN.out.bel.size)).trans ((HSN.out.bel.cell (p := ⟨b, off + i, none⟩) hbw).trans (HC.out i hi))
  have hbw2 : b < w2.heap.size := Nat.lt_of_lt_of_le hbw (Nat.le_trans HSN.out.bel.size HRF.out.bel.size)
  have hal : Below w2.heap.size w2 (w2.alloc (.cells #[.slice (some ⟨b, off, none⟩) n cap, .int .i64 pl] 30)) := (Below.refl _ _).alloc (Nat.le_refl _) _
  have hstr := str_any b off n cap w2.heap.size pl Z (w2.alloc (.cells #[.slice (some ⟨b, off, none⟩) n cap, .int .i64 pl] 30)) (fun i hi => (hal.cell (p := ⟨b, off + i, none⟩) hbw2).trans (hcz i hi)) hbw2 (scn_new _ _ _) hpn hm hcap hmax hr
  unfold ModelPost at hmod
  unfold StrPost at hstr
  simp only [Nat.zero_add] at hmod
  have hskb := skip_le Z n n pl hpn
  have hfb : ∀ q, fin Z n pl = some q → skip Z n n pl + 1 < q ∧ q ≤ n := fun q h => by
    unfold fin at h
    split at h
    · exact scan_bounds _ _ _ h
    · cases h
  generalize skip Z n n pl = p at *
  obtain ⟨hsk1, hsk2⟩ := hskb
  cases hF : fin Z n pl with
  | none =>
    have hmod' : Calls Yba.prog 7 #[.slice (some ⟨g2, 0, none⟩) n c2, .int .i64 pl] w2 fun e w' => e = .returned (.tuple #[.slice none 0 0, .bool false, .int .i64 p]) ∧ w' = w2 := by
      refine hmod.mono ?_
      rintro e w' ⟨rfl, ⟨_, rfl⟩ | ⟨q, hq', _⟩⟩
      · exact ⟨rfl, rfl⟩
      · rw [hF] at hq'; cases hq'
    have hstr' : Calls Yba.prog 8 #[.pointer (some ⟨w2.heap.size, 0, none⟩)] (w2.alloc (.cells #[.slice (some ⟨b, off, none⟩) n cap, .int .i64 pl] 30)) fun e w' =>
        e = .returned (.tuple #[.slice none 0 0, .bool false]) ∧ Scn w' w2.heap.size (.slice (some ⟨b, off, none⟩) n cap) p ∧ Below w2.heap.size (w2.alloc (.cells #[.slice (some ⟨b, off, none⟩) n cap, .int .i64 pl] 30)) w' := by
      refine hstr.mono ?_
      rintro e w' (⟨_, rfl, h1, h2⟩ | ⟨q, hq', _⟩)
      · exact ⟨rfl, h1, h2⟩
      · rw [hF] at hq'; cases hq'
    clear hmod hstr hfb hF
    refine hmod'.mono ?_
    clear hmod'
    rintro e w2 ⟨rfl, rfl⟩
    go_wp2_with fail
    refine hstr'.mono ?_
    clear hstr'
    rintro e w3 ⟨rfl, hs3, hb3⟩
    have HB3 : Hid (Below _ w2 w3) := hal.trans hb3
    have HZ3 : Hid (∀ i, i < n → w3.cell? ⟨b, off + i, none⟩ = some (.int .u8 (Z i))) := fun i hi => (HB3.out.cell (p := ⟨b, off + i, none⟩) hbw2).trans (hcz i hi)
    have HG3 : Hid (∀ i, i < n → w3.cell? ⟨g2, 0 + i, none⟩ = some (.int .u8 (Z i))) := fun i hi => by rw [Nat.zero_add]; exact (HB3.out.cell (p := ⟨g2, i, none⟩) HRF.out.hi).trans (HRF.out.cell i hi)
    have HS3 : Hid (∀ i, i < n → w3.cell? ⟨gs, 0 + i, none⟩ = some (.int .u8 (Z i))) := fun i hi => by
      rw [Nat.zero_add]
      exact (HB3.out.cell (p := ⟨gs, i, none⟩) (Nat.lt_of_lt_of_le HSN.out.hi HRF.out.bel.size)).trans ((HRF.out.bel.cell (p := ⟨gs, i, none⟩) HSN.out.hi).trans (HSN.out.cell i hi))
    have HBB : Hid (Below w.heap.size w w3) := (HSN.out.bel.trans (HRF.out.bel.mono HSN.out.bel.size)).trans (HB3.out.mono (Nat.le_trans HSN.out.bel.size HRF.out.bel.size))
    obtain ⟨c0, c1, f1⟩ := hs3
    clear HSN HRF hcz hal hb3 HB3 f1
    have hn1 : (0 : Int) < (n : Int) := by omega
    go_wp2_with fail
    go_quiet (fail)
    go_wp2_with fail
    refine (equal_same _ _ (bstr Z n) _ (conv_at b off n cap Z _ (fun i hi => by simpa using HZ3.out i hi)) (conv_at g2 0 n c2 Z _ (fun i hi => by simpa using HG3.out i hi))).mono ?_
    rintro e w4 ⟨rfl, rfl⟩
    go_wp2_with fail
    refine (equal_same _ _ (bstr Z n) _ (conv_at b off n cap Z _ (fun i hi => by simpa using HZ3.out i hi)) (conv_at gs 0 n cs Z _ (fun i hi => by simpa using HS3.out i hi))).mono ?_
    rintro e w5 ⟨rfl, rfl⟩
    go_wp2_with fail
    go_ret
    exact ⟨rfl, below_drewN HBB.out _⟩
  | some q =>
    obtain ⟨hq1, hq2⟩ := hfb q hF
    have hmod' : Calls Yba.prog 7 #[.slice (some ⟨g2, 0, none⟩) n c2, .int .i64 pl] w2 fun e w' => e = .returned (.tuple #[.slice (some ⟨g2, p, none⟩) (q - p) (c2 - p), .bool true, .int .i64 q]) ∧ w' = w2 := by
      refine hmod.mono ?_
      rintro e w' ⟨rfl, ⟨hq', _⟩ | ⟨q', hq', rfl⟩⟩
      · rw [hF] at hq'; cases hq'
      · rw [hF] at hq'; cases hq'; exact ⟨rfl, rfl⟩
    have hstr' : Calls Yba.prog 8 #[.pointer (some ⟨w2.heap.size, 0, none⟩)] (w2.alloc (.cells #[.slice (some ⟨b, off, none⟩) n cap, .int .i64 pl] 30)) fun e w' =>
        e = .returned (.tuple #[.slice (some ⟨b, off + p, none⟩) (q - p) (cap - p), .bool true]) ∧ Scn w' w2.heap.size (.slice (some ⟨b, off, none⟩) n cap) q ∧ Below w2.heap.size (w2.alloc (.cells #[.slice (some ⟨b, off, none⟩) n cap, .int .i64 pl] 30)) w' := by
      refine hstr.mono ?_
      rintro e w' (⟨hq', _⟩ | ⟨q', hq', rfl, h1, h2⟩)
      · rw [hF] at hq'; cases hq'
      · rw [hF] at hq'; cases hq'; exact ⟨rfl, h1, h2⟩
    clear hmod hstr hfb hF
    refine hmod'.mono ?_
    clear hmod'
    rintro e w2 ⟨rfl, rfl⟩
    go_wp2_with fail
    refine hstr'.mono ?_
    clear hstr'
    rintro e w3 ⟨rfl, hs3, hb3⟩
    have HB3 : Hid (Below _ w2 w3) := hal.trans hb3
    have HZ3 : Hid (∀ i, i < n → w3.cell? ⟨b, off + i, none⟩ = some (.int .u8 (Z i))) := fun i hi => (HB3.out.cell (p := ⟨b, off + i, none⟩) hbw2).trans (hcz i hi)
    have HG3 : Hid (∀ i, i < n → w3.cell? ⟨g2, 0 + i, none⟩ = some (.int .u8 (Z i))) := fun i hi => by rw [Nat.zero_add]; exact (HB3.out.cell (p := ⟨g2, i, none⟩) HRF.out.hi).trans (HRF.out.cell i hi)
    have HS3 : Hid (∀ i, i < n → w3.cell? ⟨gs, 0 + i, none⟩ = some (.int .u8 (Z i))) := fun i hi => by
      rw [Nat.zero_add]
      exact (HB3.out.cell (p := ⟨gs, i, none⟩) (Nat.lt_of_lt_of_le HSN.out.hi HRF.out.bel.size)).trans ((HRF.out.bel.cell (p := ⟨gs, i, none⟩) HSN.out.hi).trans (HSN.out.cell i hi))
    have HBB : Hid (Below w.heap.size w w3) := (HSN.out.bel.trans (HRF.out.bel.mono HSN.out.bel.size)).trans (HB3.out.mono (Nat.le_trans HSN.out.bel.size HRF.out.bel.size))
    obtain ⟨c0, c1, f1⟩ := hs3
    clear HSN HRF hcz hal hb3 HB3 f1
    have hn1 : (0 : Int) < (n : Int) := by omega
    obtain ⟨k, hk⟩ : ∃ k : Nat, q = p + k := ⟨q - p, by omega⟩
    subst hk
    rw [show p + k - p = k by omega]
    have hk0 : 0 < k := by omega
    have i1 : (0 : Int) < (k : Int) := by omega
    have hkp : ((p + k : Nat) : Int) = (p : Int) + (k : Int) := by omega
    rw [hkp] at c1 ⊢
    clear hkp
    go_wp2_with fail
    refine (equal_same _ _ (bstr (fun i => Z (p + i)) k) _ (conv_at b (off + p) k (cap - p) (fun i => Z (p + i)) _ (fun i hi => by rw [Nat.add_assoc]; exact HZ3.out (p + i) (by omega))) (conv_at g2 p k (c2 - p) (fun i => Z (p + i)) _ (fun i hi => by have := HG3.out (p + i) (by omega); rwa [Nat.zero_add] at this))).mono ?_
    rintro e w3 ⟨rfl, rfl⟩
    have p0 : (0 : Int) ≤ (p : Int) := by omega
    have p1 : (p : Int) < (n : Int) := by omega
    go_wp2_with fail
    go_quiet (fail)
    go_wp2_with fail
    go_quiet (fail)
    go_wp2_with fail
    refine (equal_same _ _ (bstr Z n) _ (conv_at b off n cap Z _ (fun i hi => by simpa using HZ3.out i hi)) (conv_at g2 0 n c2 Z _ (fun i hi => by simpa using HG3.out i hi))).mono ?_
    rintro e w4 ⟨rfl, rfl⟩
    go_wp2_with fail
    refine (equal_same _ _ (bstr Z n) _ (conv_at b off n cap Z _ (fun i hi => by simpa using HZ3.out i hi)) (conv_at gs 0 n cs Z _ (fun i hi => by simpa using HS3.out i hi))).mono ?_
    rintro e w5 ⟨rfl, rfl⟩
    go_wp2_with fail
    go_ret
    exact ⟨rfl, below_drewN HBB.out _⟩
end Go.Proofs.Ybulkdnue
