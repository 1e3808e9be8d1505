import Derived.Test.YbulkdnueCParts
import Derived.Test.YbulkdnueCSame
import Derived.StillTailTactics
import Derived.LaidEqlPtr
namespace Go.Proofs.Ybulkdnue
open Go.RowKit

theorem Built.later {w wr w' : World} {n k : Nat} {X : Nat → Src} (h : Built w wr n k X) (hb : Below wr.heap.size wr w') : Built w w' n k X where
  bel := h.bel.trans (hb.mono h.bel.size)
  lt := Nat.lt_of_lt_of_le h.lt hb.size
  row := h.row.kept hb h.lt
  room := fun j hj => by
    have := h.room j hj
    have e1 := hb.cell (p := ⟨w.heap.size, 0 + j, none⟩) h.lt
    have e2 := hb.frozen (p := ⟨w.heap.size, 0 + j, none⟩) h.lt
    exact ⟨by rw [e1]; exact this.1, by rw [e2]; exact this.2⟩

theorem run_neq_ptr_same (a : Addr) (w : World) : (binOp .neq 53 (.pointer (some a)) (.pointer (some a))).run Yba.prog w = .ok (.bool false) w := by
  obtain ⟨i, hi, _⟩ := info_parts info51
  have h : ∀ d : Nat, (Op.equalIn (d + 1) 53 (.pointer (some a)) (.pointer (some a))).run Yba.prog w = .ok true w := fun d => by
    simp [Op.equalIn, run_underlying Yba.underlying53, sizeOf, typeInfo, hi, run_sameAddr_same]
  simp only [binOp]
  simp [Op.equal, Op.maxDepth, h 9999]

theorem cells_one (x : Src) : (x.cells.all (·.oneCell')) = true := by simp [Src.cells, Value.oneCell']

theorem cnt_le (X : Nat → Src) (k : Nat) : cnt X k ≤ k := by
  induction k with
  | zero => simp [cnt]
  | succ k ih => simp only [cnt]; split <;> omega

theorem lastIx_ge (X : Nat → Src) (k : Nat) : -1 ≤ lastIx X k ∧ lastIx X k < k := by
  induction k with
  | zero => simp [lastIx]
  | succ k ih => simp only [lastIx]; split <;> omega

theorem lastIx_pos (X : Nat → Src) (k : Nat) (h : 0 < cnt X k) : 0 ≤ lastIx X k := by
  induction k with
  | zero => simp [cnt] at h
  | succ k ih =>
    simp only [lastIx]
    simp only [cnt] at h
    split
    · omega
    · rename_i hu; simp [hu] at h; exact ih h

set_option maxHeartbeats 800000 in
theorem walk_full (b off n cap : Nat) (X : Nat → Src) (w : World) (hx : XRow w b off n X) (hbw : b < w.heap.size) (h0 : 0 < n) (hn : n ≤ 1048576) :
    Calls Yba.prog 4 #[.slice (some ⟨b, off, none⟩) n cap] w fun e w' => e = .returned (.bool true) ∧ Below w.heap.size w w' := by
  have hmk := run_mk n hn
  have HX : Hid (XRow w b off n X) := hx
  clear hx
  go_enter Yba.func4, Yba.ntmps4
  go_wp2
  clear hmk
  go_loopw [4] (fun i wr => ∃ k : Nat, k ≤ n ∧ i = .int .i64 k ∧ Built w wr n k X) (fun i _ => n - (intOf i).toNat)
  case atStart => exact ⟨0, Nat.zero_le _, rfl, Built.start w n X⟩
  case round =>
    obtain ⟨k, hk, rfl, hB⟩ := hrel
    by_cases hlt : k < n
    · obtain ⟨c0, c1, c2, c3, c4, c5, c6⟩ := (HX.out.kept hB.bel hbw).at hlt
      have hne : b ≠ w.heap.size := by omega
      have i0 : (0 : Int) ≤ (k : Int) := by omega
      have i1 : (k : Int) < (n : Int) := by omega
      have HBu : Hid (Built w wr n k X) := hB
      clear hB
      go_wp2
      go_still_tail 40, (by kernel_rfl)
      refine wpList_store_mid rfl 51 _ _ rfl w.heap.size (k * 15) (X k).cells rfl rfl ((World.there_drew wr _ _ _).2 (HBu.out.there hlt)) size51 (cells_one _) ?_
      clear c0 c1 c2 c3 c4 c5 c6
      have HBu2 : Hid (Built w (wr.drew.setCells w.heap.size (k * 15) (X k).cells.toList) n (k + 1) X) := HBu.out.step hlt
      go_wp2
      go_roundw
      case rel => exact ⟨k + 1, by omega, by go_num, HBu2.out⟩
      case measure => simp [intOf]; omega
    · have hkn : k = n := by omega
      subst hkn
      have HBu : Hid (Built w wr k k X) := hB
      clear hB
      go_wp2
      go_loopw [5, 6, 7] (fun c ix i wr => ∃ m : Nat, m ≤ k ∧ i = .int .i64 m ∧ c = .int .i64 (cnt X m) ∧ ix = .int .i64 (lastIx X m) ∧ Built w wr k k X) (fun _ _ i _ => k - (intOf i).toNat)
      case atStart => exact ⟨0, Nat.zero_le _, rfl, rfl, rfl, HBu.out⟩
      case round =>
        clear HBu
        obtain ⟨m, hm, rfl, rfl, rfl, hB⟩ := hrel
        by_cases hlt : m < k
        · obtain ⟨c0, c1, c2, c3, c4, c5, c6⟩ := (HX.out.kept hB.bel hbw).at hlt
          have hcl := cnt_le X m
          have HBu : Hid (Built w wr k k X) := hB
          clear hB
          go_wp2_with (go_at_call 10; refine (used_any (X m).s (X m).wt (X m).l (X m).d (X m).c (X m).st (X m).q _).mono ?_; rintro e w2 ⟨rfl, hb2⟩)
          · have hu : (X m).used = true := by assumption
            go_roundw
            case rel => exact ⟨m + 1, by omega, by go_num, by simp [cnt, hu], by simp [lastIx, hu], HBu.out.later hb2⟩
            case measure => simp [intOf]; omega
          · have hu : (X m).used = false := by assumption
            go_roundw
            case rel => exact ⟨m + 1, by omega, by go_num, by simp [cnt, hu], by simp [lastIx, hu], HBu.out.later hb2⟩
            case measure => simp [intOf]; omega
        · have hmk : m = k := by omega
          subst hmk
          have hlone := lone_any w.heap.size m X wr hB.row hB.lt hn
          have HBu : Hid (Built w wr m m X) := hB
          clear hB
          by_cases hc : cnt X m = 1
          · obtain ⟨ix, hix⟩ := Int.eq_ofNat_of_zero_le (lastIx_pos X m (by omega))
            have hl1 := (lastIx_ge X m).2
            have hp : loneP w.heap.size X m = some ⟨w.heap.size, ix * 15, none⟩ := by rw [loneP, if_pos hc, hix]; rfl
            have hi2 : ix < m := by omega
            rw [hp] at hlone
            rw [hc, hix]
            clear hl1 hp
            have hpp := run_neq_ptr_same
            have HC : Hid (cnt X m = 1 ∧ lastIx X m = ix) := ⟨hc, hix⟩
            clear hc hix
            go_wp2_with (go_at_call 11; refine hlone.mono ?_; clear hlone; rintro e w3 ⟨rfl, hb3⟩)
            clear hpp
            have HB3 : Hid (Built w w3 m m X) := HBu.out.later hb3
            clear HBu hb3
            go_loopw [9] (fun i wr => ∃ k : Nat, k ≤ m ∧ i = .int .i64 k ∧ Built w wr m m X) (fun i _ => m - (intOf i).toNat)
            case atStart => exact ⟨0, Nat.zero_le _, rfl, HB3.out⟩
            case round =>
              clear HB3
              obtain ⟨k, hk, rfl, hB⟩ := hrel
              by_cases hlt : k < m
              · obtain ⟨c0, c1, c2, c3, c4, c5, c6⟩ := (HX.out.kept hB.bel hbw).at hlt
                obtain ⟨d0, d1, d2, d3, d4, d5, d6, d7, d8, d9, d10, d11, d12, d13, d14⟩ := hB.row.at hlt
                have i0 : (0 : Int) ≤ (k : Int) := by omega
                have i1 : (k : Int) < (m : Int) := by omega
                have HBu : Hid (Built w _ m m X) := hB
                clear hB
                go_wp2
                go_still_tail 8, (by kernel_rfl)
                clear c0 c1 c2 c3 c4 c5 c6 d0 d1 d2 d3 d4 d5 d6 d7 d8 d9 d10 d11 d12 d13 d14
                go_wp2_with (go_at_call 12; refine (same_any (X k).s (X k).wt (X k).l (X k).d (X k).c (X k).st (X k).q _ _ _ _ _ _ _ _ _).mono ?_; rintro e w2 ⟨rfl, hb2⟩)
                go_roundw
                case rel => exact ⟨k + 1, by omega, by go_num, HBu.out.later ((Below.refl _ _).drew.trans hb2)⟩
                case measure => simp [intOf]; omega
              · have HBu : Hid (Built w _ m m X) := hB
                clear hB
                go_wp2
                go_ret
                exact ⟨rfl, HBu.out.bel⟩
          · have hp : loneP w.heap.size X m = none := by rw [loneP, if_neg hc]
            have hcc : ((cnt X m : Int) == 1) = false := by rw [beq_eq_false_iff_ne]; omega
            rw [hp] at hlone
            clear hp hc
            go_wp2_with (go_at_call 11; refine hlone.mono ?_; clear hlone; rintro e w3 ⟨rfl, hb3⟩)
            have HB3 : Hid (Built w w3 m m X) := HBu.out.later hb3
            clear HBu hb3
            go_loopw [9] (fun i wr => ∃ k : Nat, k ≤ m ∧ i = .int .i64 k ∧ Built w wr m m X) (fun i _ => m - (intOf i).toNat)
            case atStart => exact ⟨0, Nat.zero_le _, rfl, HB3.out⟩
            case round =>
              clear HB3
              obtain ⟨k, hk, rfl, hB⟩ := hrel
              by_cases hlt : k < m
              · obtain ⟨c0, c1, c2, c3, c4, c5, c6⟩ := (HX.out.kept hB.bel hbw).at hlt
                obtain ⟨d0, d1, d2, d3, d4, d5, d6, d7, d8, d9, d10, d11, d12, d13, d14⟩ := hB.row.at hlt
                have i0 : (0 : Int) ≤ (k : Int) := by omega
                have i1 : (k : Int) < (m : Int) := by omega
                have HBu : Hid (Built w _ m m X) := hB
                clear hB
                go_wp2
                go_still_tail 8, (by kernel_rfl)
                clear c0 c1 c2 c3 c4 c5 c6 d0 d1 d2 d3 d4 d5 d6 d7 d8 d9 d10 d11 d12 d13 d14
                go_wp2_with (go_at_call 12; refine (same_any (X k).s (X k).wt (X k).l (X k).d (X k).c (X k).st (X k).q _ _ _ _ _ _ _ _ _).mono ?_; rintro e w2 ⟨rfl, hb2⟩)
                go_roundw
                case rel => exact ⟨k + 1, by omega, by go_num, HBu.out.later ((Below.refl _ _).drew.trans hb2)⟩
                case measure => simp [intOf]; omega
              · have HBu : Hid (Built w _ m m X) := hB
                clear hB
                go_wp2
                go_ret
                exact ⟨rfl, HBu.out.bel⟩
end Go.Proofs.Ybulkdnue
