import Derived.Test.YbulkdnueBLeaf
import Derived.Test.YbulkdnueBSpace
namespace Go.Proofs.Ybulkdnue
open Go.RowKit

/-- where the string that stands at p0, past white space, ends; none where none stands there -/
def fin (Z : Nat → Int) (n p0 : Nat) : Option Nat := if skip Z n n p0 < n ∧ Z (skip Z n n p0) = 34 then scan Z n n (skip Z n n p0 + 1) else none

theorem scan_bounds {Z : Nat → Int} {n : Nat} : ∀ (f j e : Nat), scan Z n f j = some e → j < e ∧ e ≤ n := by
  intro f
  induction f with
  | zero => intro j e h; simp [scan] at h
  | succ f ih =>
    intro j e h
    simp only [scan] at h
    split at h
    · cases h
    · split at h
      · cases h; omega
      · split at h
        · cases h
        · split at h
          · split at h
            · cases h
            · have := ih _ _ h; omega
          · have := ih _ _ h; omega

theorem esc_shift (Z : Nat → Int) (n i : Nat) (h : i ≤ n) : esc (fun k => Z (i + k)) (n - i) 0 = esc Z n i := by
  unfold esc
  have e1 : (n - i ≤ 0) ↔ (n ≤ i) := by omega
  have e2 : (0 + 5 ≤ n - i) ↔ (i + 5 ≤ n) := by omega
  simp only [e1, e2, Nat.add_zero, Nat.zero_add]

def StrPost (Z : Nat → Int) (n p0 b off cap S : Nat) (w : World) (e : Ending) (w' : World) : Prop :=
  (fin Z n p0 = none ∧ e = .returned (.tuple #[.slice none 0 0, .bool false]) ∧ Scn w' S (.slice (some ⟨b, off, none⟩) n cap) (skip Z n n p0) ∧ Below S w w') ∨
  ∃ q, fin Z n p0 = some q ∧ e = .returned (.tuple #[.slice (some ⟨b, off + skip Z n n p0, none⟩) (q - skip Z n n p0) (cap - skip Z n n p0), .bool true]) ∧ Scn w' S (.slice (some ⟨b, off, none⟩) n cap) q ∧ Below S w w'

set_option maxHeartbeats 400000 in
theorem str_any (b off n cap S p0 : Nat) (Z : Nat → Int) (w : World) (hc : ∀ i, i < n → w.cell? ⟨b, off + i, none⟩ = some (.int .u8 (Z i))) (hbS : b < S) (hs : Scn w S (.slice (some ⟨b, off, none⟩) n cap) p0) (hp : p0 ≤ n) (hm : n ≤ 1048576)
    (hcap : n ≤ cap) (hmax : cap ≤ 9223372036854775807) (hr : ∀ i, 0 ≤ Z i ∧ Z i ≤ 255) :
    Calls Yba.prog 8 #[.pointer (some ⟨S, 0, none⟩)] w (StrPost Z n p0 b off cap S w) := by
  have hspace := space_any b off n cap S p0 Z w hc hbS hs hp hm
  obtain ⟨hp1, hp2⟩ := skip_le Z n n p0 hp
  have HF : Hid (fin Z n p0 = if skip Z n n p0 < n ∧ Z (skip Z n n p0) = 34 then scan Z n n (skip Z n n p0 + 1) else none) := rfl
  have HC : Hid (∀ i, i < n → w.cell? ⟨b, off + i, none⟩ = some (.int .u8 (Z i))) := hc
  clear hc hs
  unfold StrPost
  generalize hfin : fin Z n p0 = F at *
  generalize hsk : skip Z n n p0 = p at *
  clear hfin hsk
  go_enter Yba.func8, Yba.ntmps8
  go_wp2_with fail
  refine hspace.mono ?_
  clear hspace
  rintro e w1 ⟨rfl, hs1, hb1⟩
  have HS1 : Hid (Scn w1 S (.slice (some ⟨b, off, none⟩) n cap) p) := hs1
  obtain ⟨c0, c1, f1⟩ := hs1
  have HB1 : Hid (Below S w w1) := hb1
  clear hb1
  by_cases hpn : p = n
  · have hF : Hid (F = none) := by show F = none; rw [HF.out, if_neg (by omega)]
    subst hpn
    go_wp2
    go_ret2
    exact .inl ⟨hF.out, rfl, HS1.out, HB1.out⟩
  have hlt : p < n := by omega
  have cz : w1.cell? ⟨b, off + p, none⟩ = some (.int .u8 (Z p)) := (HB1.out.cell (p := ⟨b, off + p, none⟩) hbS).trans (HC.out p hlt)
  have hpe : ((p : Int) == (n : Int)) = false := by rw [beq_eq_false_iff_ne]; omega
  by_cases hq : Z p = 34
  · have hF : F = scan Z n n (p + 1) := by rw [HF.out, if_pos ⟨hlt, hq⟩]
    have HF2 : Hid (F = scan Z n n (p + 1)) := hF
    clear hF HF
    rw [hq] at cz
    have HQ : Hid (Z p = 34) := hq
    clear hq
    go_wp2
    go_loop [5] (fun i => ∃ j : Nat, p < j ∧ j ≤ n ∧ i = .int .i64 j ∧ scan Z n n j = scan Z n n (p + 1)) (fun i => n - (intOf i).toNat)
    case atStart => exact ⟨p + 1, by omega, by omega, by go_num, rfl⟩
    case round =>
      obtain ⟨j, hj1, hj2, rfl, hsc⟩ := hrel
      have HSC : Hid (scan Z n n j = scan Z n n (p + 1)) := hsc
      clear hsc
      by_cases hjn : j < n
      · have cj : w1.cell? ⟨b, off + j, none⟩ = some (.int .u8 (Z j)) := (HB1.out.cell (p := ⟨b, off + j, none⟩) hbS).trans (HC.out j hjn)
        have hrj := hr j
        by_cases h34 : Z j = 34
        · have hF : Hid (F = some (j + 1)) := by show F = some (j + 1); rw [HF2.out, ← HSC.out, scan_quote hjn h34]
          rw [h34] at cj
          clear h34 hrj cz
          go_wp2
          go_quiet (fail)
          go_wp2
          go_ret2
          refine .inr ⟨j + 1, hF.out, ?_, by simpa using (HS1.out.set (j + 1)).drewN _, below_drewN (HB1.out.setCell (Nat.le_refl _) _) _⟩
          rfl
        have e34 : (Z j == 34) = false := by rw [beq_eq_false_iff_ne]; exact h34
        by_cases h32 : Z j < 32
        · have hF : Hid (F = none) := by show F = none; rw [HF2.out, ← HSC.out, scan_low hjn h32]
          clear h34
          go_wp2
          go_ret2
          exact .inl ⟨hF.out, rfl, HS1.out, HB1.out⟩
        by_cases h92 : Z j = 92
        · clear e34 h34 h32 hrj
          rw [h92] at cj
          have H92 : Hid (Z j = 92) := h92
          clear h92
          by_cases hlast : j + 1 = n
          · have hF : Hid (F = none) := by show F = none; rw [HF2.out, ← HSC.out, scan_esc0 hjn H92.out (by unfold esc; rw [if_pos (by omega)])]
            rcases Nat.lt_or_eq_of_le hcap with hcl | hcl
            · go_wp2_with (go_at_call 15; refine (escape_zero _ _ _).mono ?_; rintro e w2 ⟨rfl, rfl⟩)
              go_ret2
              exact .inl ⟨hF.out, rfl, HS1.out, HB1.out⟩
            · subst hcl
              go_wp2_with (go_at_call 15; refine (escape_zero _ _ _).mono ?_; rintro e w2 ⟨rfl, rfl⟩)
              go_ret2
              exact .inl ⟨hF.out, rfl, HS1.out, HB1.out⟩
          · have hesc := escape_any b (off + (j + 1)) (n - (j + 1)) (cap - (j + 1)) (fun k => Z (j + 1 + k)) w1 (fun i hi => by
              rw [Nat.add_assoc]
              exact (HB1.out.cell (p := ⟨b, off + (j + 1 + i), none⟩) hbS).trans (HC.out (j + 1 + i) (by omega))) (by omega) (by omega) (by omega)
            rw [esc_shift Z n (j + 1) (by omega)] at hesc
            have hel := esc_le Z n (j + 1)
            by_cases he : esc Z n (j + 1) = 0
            · have hF : Hid (F = none) := by show F = none; rw [HF2.out, ← HSC.out, scan_esc0 hjn H92.out he]
              rw [he] at hesc
              clear he hel
              go_wp2_with (go_at_call 15; refine hesc.mono ?_; clear hesc; rintro e w2 ⟨rfl, rfl⟩)
              go_ret2
              exact .inl ⟨hF.out, rfl, HS1.out, HB1.out⟩
            · have hF : Hid (scan Z n n (j + 1 + esc Z n (j + 1)) = scan Z n n (p + 1)) := by show _ = _; rw [← scan_esc hjn H92.out he]; exact HSC.out
              generalize esc Z n (j + 1) = q at *
              have hq0 : ((q : Int) == 0) = false := by rw [beq_eq_false_iff_ne]; omega
              obtain ⟨q1, q2⟩ := hel
              go_wp2_with (go_at_call 15; refine hesc.mono ?_; clear hesc; rintro e w2 ⟨rfl, rfl⟩)
              go_round
              case rel => exact ⟨j + 1 + q, by omega, by omega, by go_num, hF.out⟩
              case measure => simp [intOf]; omega
        · have e92 : (Z j == 92) = false := by rw [beq_eq_false_iff_ne]; exact h92
          have hF : Hid (scan Z n n (j + 1) = scan Z n n (p + 1)) := by show _ = _; rw [← scan_plain hjn h34 h32 h92]; exact HSC.out
          clear h34 h92
          go_wp2
          go_round
          case rel => exact ⟨j + 1, by omega, by omega, by go_num, hF.out⟩
          case measure => simp [intOf]; omega
      · have hF : Hid (F = none) := by show F = none; rw [HF2.out, ← HSC.out, scan_end Z (by omega)]
        go_wp2
        go_ret2
        exact .inl ⟨hF.out, rfl, HS1.out, HB1.out⟩
  · have hF : Hid (F = none) := by show F = none; rw [HF.out, if_neg (by intro h; exact hq h.2)]
    have hq' : (Z p != 34) = true := by rw [bne_iff_ne]; exact hq
    clear hq
    go_wp2
    go_ret2
    exact .inl ⟨hF.out, rfl, HS1.out, HB1.out⟩
end Go.Proofs.Ybulkdnue
