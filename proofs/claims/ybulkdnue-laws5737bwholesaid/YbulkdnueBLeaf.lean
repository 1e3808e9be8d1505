import Derived.Test.YbulkdnueBPlain
import Derived.WalkKit
import Derived.WalkSpells
import Derived.WalkLawsBesides
import Derived.Deep.QuietTactic
import Derived.BigQuiet
namespace Go.Proofs.Ybulkdnue
open Go.RowKit

theorem ret_bool {a b : Bool} (h : a = b) : Ending.returned (.bool a) = .returned (.bool b) := by rw [h]
theorem ret_int {k : IntKind} {a b : Int} (h : a = b) : Ending.returned (.int k a) = .returned (.int k b) := by rw [h]

set_option maxHeartbeats 400000 in
theorem hex_any (c : Int) (w : World) : Calls Yba.prog 13 #[.int .u8 c] w fun e w' => e = .returned (.bool (hexB c)) ∧ w' = w := by
  go_enter Yba.func13, Yba.ntmps13
  go_wp2
  all_goals
    go_ret
    refine ⟨ret_bool ?_, rfl⟩
    rw [Bool.eq_iff_iff]
    simp [hexB]
    try omega

set_option maxHeartbeats 400000 in
theorem escape_zero (o : Option Addr) (cap : Nat) (w : World) : Calls Yba.prog 15 #[.slice o 0 cap] w fun e w' => e = .returned (.int .i64 0) ∧ w' = w := by
  go_enter Yba.func15, Yba.ntmps15
  go_wp2
  go_ret
  exact ⟨rfl, rfl⟩

theorem esc_sim {Z : Nat → Int} {n : Nat} (hn : 0 < n) (h : simB (Z 0) = true) : esc Z n 0 = 1 := by
  unfold esc; rw [if_neg (by omega), if_pos h]
theorem esc_none {Z : Nat → Int} {n : Nat} (hn : 0 < n) (h : simB (Z 0) = false) (h1 : ¬ (Z 0 = 117 ∧ 0 + 5 ≤ n ∧ hexB (Z (0 + 1)) = true ∧ hexB (Z (0 + 2)) = true ∧ hexB (Z (0 + 3)) = true ∧ hexB (Z (0 + 4)) = true)) : esc Z n 0 = 0 := by
  unfold esc; rw [if_neg (by omega), if_neg (by rw [h]; exact Bool.false_ne_true), if_neg h1]
theorem esc_five {Z : Nat → Int} {n : Nat} (h1 : Z 0 = 117) (h5 : 5 ≤ n) (h : ∀ j, j < 4 → hexB (Z (1 + j)) = true) : esc Z n 0 = 5 := by
  unfold esc
  rw [if_neg (by omega), if_neg (by simp [simB, h1]), if_pos ⟨h1, by omega, h 0 (by omega), h 1 (by omega), h 2 (by omega), h 3 (by omega)⟩]

set_option maxHeartbeats 400000 in
theorem escape_short (b off n cap : Nat) (Z : Nat → Int) (w : World) (c0 : w.cell? ⟨b, off, none⟩ = some (.int .u8 (Z 0))) (hn : 0 < n) (hcap : n ≤ cap) (hm : cap ≤ 9223372036854775807) (h5 : ¬ (5 ≤ n ∧ Z 0 = 117)) :
    Calls Yba.prog 15 #[.slice (some ⟨b, off, none⟩) n cap] w fun e w' => e = .returned (.int .i64 (esc Z n 0)) ∧ w' = w := by
  have HN : Hid (¬ (5 ≤ n ∧ Z 0 = 117)) := h5
  clear h5
  go_enter Yba.func15, Yba.ntmps15
  go_wp2
  all_goals
    first
    | (go_ret
       refine ⟨ret_int ?_, rfl⟩
       first
       | (rw [esc_sim hn (by simp_all [simB])]; rfl)
       | (rw [esc_none hn (by simp_all [simB]) (by have := HN.out; omega)]; rfl))
    | skip
  all_goals exact absurd ⟨by omega, by simpa using ‹(Z 0 == 117) = true›⟩ HN.out

theorem hex_yes {c : Int} (h : hexB c = true) : (decide (48 ≤ c) = true ∧ decide (c ≤ 57) = true) ∨ (decide (48 ≤ c) = true ∧ decide (c ≤ 57) = false ∧ decide (97 ≤ c) = true ∧ decide (c ≤ 102) = true) ∨
    (decide (48 ≤ c) = true ∧ decide (c ≤ 57) = false ∧ decide (97 ≤ c) = false ∧ decide (65 ≤ c) = true ∧ decide (c ≤ 70) = true) := by
  simp [hexB] at h; simp; omega
theorem hex_no {c : Int} (h : ¬ hexB c = true) : (decide (48 ≤ c) = false ∧ decide (97 ≤ c) = false ∧ decide (65 ≤ c) = false) ∨ (decide (48 ≤ c) = true ∧ decide (c ≤ 57) = false ∧ decide (97 ≤ c) = false ∧ decide (65 ≤ c) = false) ∨
    (decide (48 ≤ c) = true ∧ decide (c ≤ 57) = false ∧ decide (97 ≤ c) = false ∧ decide (65 ≤ c) = true ∧ decide (c ≤ 70) = false) ∨
    (decide (48 ≤ c) = true ∧ decide (c ≤ 57) = false ∧ decide (97 ≤ c) = true ∧ decide (c ≤ 102) = false ∧ decide (65 ≤ c) = true ∧ decide (c ≤ 70) = false) := by
  simp [hexB] at h; simp; omega
theorem esc_nohex {Z : Nat → Int} {n k : Nat} (hn : 5 ≤ n) (h1 : Z 0 = 117) (hk : k < 4) (h : ¬ hexB (Z (1 + k)) = true) : esc Z n 0 = 0 := by
  refine esc_none (by omega) (by simp [simB, h1]) ?_
  rintro ⟨_, _, a, b, c, d⟩
  have : k = 0 ∨ k = 1 ∨ k = 2 ∨ k = 3 := by omega
  rcases this with rfl | rfl | rfl | rfl
  · exact h a
  · exact h b
  · exact h c
  · exact h d

set_option maxHeartbeats 400000 in
theorem escape_u (b off n cap : Nat) (Z : Nat → Int) (w : World) (hc : ∀ i, i < n → w.cell? ⟨b, off + i, none⟩ = some (.int .u8 (Z i))) (hn : 5 ≤ n) (hcap : n ≤ cap) (hm : cap ≤ 9223372036854775807) (h0 : Z 0 = 117) :
    Calls Yba.prog 15 #[.slice (some ⟨b, off, none⟩) n cap] w fun e w' => e = .returned (.int .i64 (esc Z n 0)) ∧ w' = w := by
  have c0 : w.cell? ⟨b, off, none⟩ = some (.int .u8 117) := by rw [← h0]; exact hc 0 (by omega)
  have HC : Hid (∀ i, i < n → w.cell? ⟨b, off + i, none⟩ = some (.int .u8 (Z i))) := hc
  have H0 : Hid (Z 0 = 117) := h0
  clear hc h0
  go_enter Yba.func15, Yba.ntmps15
  go_wp2
  go_loop [28] (fun i => ∃ k : Nat, k ≤ 4 ∧ i = .int .i64 k ∧ ∀ j, j < k → hexB (Z (1 + j)) = true) (fun i => 4 - (intOf i).toNat)
  case atStart => exact ⟨0, Nat.zero_le _, rfl, fun j hj => absurd hj (Nat.not_lt_zero _)⟩
  case round =>
    obtain ⟨k, hk, rfl, hx⟩ := hrel
    by_cases hlt : k < 4
    · have ck : w.cell? ⟨b, off + 1 + k, none⟩ = some (.int .u8 (Z (1 + k))) := by rw [Nat.add_assoc]; exact HC.out (1 + k) (by omega)
      have HX : Hid (∀ j, j < k → hexB (Z (1 + j)) = true) := hx
      clear hx
      by_cases hh : hexB (Z (1 + k)) = true
      · have HR : Hid (∀ j, j < k + 1 → hexB (Z (1 + j)) = true) := fun j hj => by
          by_cases e : j = k
          · subst e; exact hh
          · exact HX.out j (by omega)
        rcases hex_yes hh with ⟨r1, r2⟩ | ⟨r1, r2, r3, r4⟩ | ⟨r1, r2, r3, r4, r5⟩
        all_goals
          clear hh HX
          go_wp2
          go_round
          case rel => exact ⟨k + 1, by omega, by go_num, HR.out⟩
          case measure => simp [intOf]; omega
      · have he := esc_nohex hn H0.out hlt hh
        rcases hex_no hh with ⟨r1, r2, r3⟩ | ⟨r1, r2, r3, r4⟩ | ⟨r1, r2, r3, r4, r5⟩ | ⟨r1, r2, r3, r4, r5, r6⟩
        all_goals
          clear hh HX
          go_wp2
          go_ret
          exact ⟨rfl, rfl⟩
    · have hk4 : k = 4 := by omega
      subst hk4
      have he := esc_five H0.out hn hx
      clear hx
      go_wp2
      go_ret
      exact ⟨rfl, rfl⟩

theorem escape_any (b off n cap : Nat) (Z : Nat → Int) (w : World) (hc : ∀ i, i < n → w.cell? ⟨b, off + i, none⟩ = some (.int .u8 (Z i))) (hn : 0 < n) (hcap : n ≤ cap) (hm : cap ≤ 9223372036854775807) :
    Calls Yba.prog 15 #[.slice (some ⟨b, off, none⟩) n cap] w fun e w' => e = .returned (.int .i64 (esc Z n 0)) ∧ w' = w := by
  by_cases h : 5 ≤ n ∧ Z 0 = 117
  · exact escape_u b off n cap Z w hc h.1 hcap hm h.2
  · exact escape_short b off n cap Z w (hc 0 hn) hn hcap hm h
end Go.Proofs.Ybulkdnue
