import Derived.Test.YbulkdnueBStr
namespace Go.Proofs.Ybulkdnue
open Go.RowKit

set_option maxHeartbeats 400000 in
theorem str_zero (o : Option Addr) (cap S : Nat) (w : World) (hs : Scn w S (.slice o 0 cap) 0) :
    Calls Yba.prog 8 #[.pointer (some ⟨S, 0, none⟩)] w fun e w' => e = .returned (.tuple #[.slice none 0 0, .bool false]) ∧ Scn w' S (.slice o 0 cap) 0 ∧ Below S w w' := by
  have hspace := space_zero o cap S w hs
  clear hs
  go_enter Yba.func8, Yba.ntmps8
  go_wp2_with fail
  refine hspace.mono ?_
  clear hspace
  rintro e w1 ⟨rfl, hs1, hb1⟩
  have HS1 : Hid (Scn w1 S (.slice o 0 cap) 0) := hs1
  obtain ⟨c0, c1, f1⟩ := hs1
  go_wp2
  go_ret2
  exact ⟨rfl, HS1.out, hb1⟩

set_option maxRecDepth 100000 in
set_option maxHeartbeats 400000 in
theorem model_zero (o : Option Addr) (cap : Nat) (w : World) :
    Calls Yba.prog 7 #[.slice o 0 cap, .int .i64 0] w fun e w' => e = .returned (.tuple #[.slice none 0 0, .bool false, .int .i64 0]) ∧ w' = w := by
  go_enter Yba.func7, Yba.ntmps7
  go_wp2
  refine wp_loop_rounds 1 ?_
  rw [rounds_succ]
  go_wp2
  go_ret3
  exact ⟨rfl, rfl⟩

def ModelPost (Z : Nat → Int) (n p0 b off cap : Nat) (w : World) (e : Ending) (w' : World) : Prop :=
  w' = w ∧
  ((fin Z n p0 = none ∧ e = .returned (.tuple #[.slice none 0 0, .bool false, .int .i64 (skip Z n n p0)])) ∨
  ∃ q : Nat, fin Z n p0 = some q ∧ e = .returned (.tuple #[.slice (some ⟨b, off + skip Z n n p0, none⟩) (q - skip Z n n p0) (cap - skip Z n n p0), .bool true, .int .i64 q]))

theorem ws_yes {c : Int} (h : wsB c = true) : (c == 32) = true ∨ ((c == 32) = false ∧ (c == 9) = true) ∨ ((c == 32) = false ∧ (c == 9) = false ∧ (c == 10) = true) ∨ ((c == 32) = false ∧ (c == 9) = false ∧ (c == 10) = false ∧ (c == 13) = true) := by
  unfold wsB at h
  revert h
  cases (c == 32) <;> cases (c == 9) <;> cases (c == 10) <;> cases (c == 13) <;> simp
theorem ws_no {c : Int} (h : ¬ wsB c = true) : (c == 32) = false ∧ (c == 9) = false ∧ (c == 10) = false ∧ (c == 13) = false := by
  unfold wsB at h
  revert h
  cases (c == 32) <;> cases (c == 9) <;> cases (c == 10) <;> cases (c == 13) <;> simp

theorem sim_yes {c : Int} (h : simB c = true) : ((c == 34) = true) ∨ ((c == 34) = false ∧ (c == 92) = true) ∨ ((c == 34) = false ∧ (c == 92) = false ∧ (c == 47) = true) ∨ ((c == 34) = false ∧ (c == 92) = false ∧ (c == 47) = false ∧ (c == 98) = true) ∨ ((c == 34) = false ∧ (c == 92) = false ∧ (c == 47) = false ∧ (c == 98) = false ∧ (c == 102) = true) ∨ ((c == 34) = false ∧ (c == 92) = false ∧ (c == 47) = false ∧ (c == 98) = false ∧ (c == 102) = false ∧ (c == 110) = true) ∨ ((c == 34) = false ∧ (c == 92) = false ∧ (c == 47) = false ∧ (c == 98) = false ∧ (c == 102) = false ∧ (c == 110) = false ∧ (c == 114) = true) ∨ ((c == 34) = false ∧ (c == 92) = false ∧ (c == 47) = false ∧ (c == 98) = false ∧ (c == 102) = false ∧ (c == 110) = false ∧ (c == 114) = false ∧ (c == 116) = true) := by
  unfold simB at h
  revert h
  cases (c == 34) <;> cases (c == 92) <;> cases (c == 47) <;> cases (c == 98) <;> cases (c == 102) <;> cases (c == 110) <;> cases (c == 114) <;> cases (c == 116) <;> simp
theorem sim_no {c : Int} (h : ¬ simB c = true) : (c == 34) = false ∧ (c == 92) = false ∧ (c == 47) = false ∧ (c == 98) = false ∧ (c == 102) = false ∧ (c == 110) = false ∧ (c == 114) = false ∧ (c == 116) = false := by
  unfold simB at h
  revert h
  cases (c == 34) <;> cases (c == 92) <;> cases (c == 47) <;> cases (c == 98) <;> cases (c == 102) <;> cases (c == 110) <;> cases (c == 114) <;> cases (c == 116) <;> simp

theorem esc_one {Z : Nat → Int} {n i : Nat} (h : i < n) (hs : simB (Z i) = true) : esc Z n i = 1 := by
  unfold esc; rw [if_neg (by omega), if_pos hs]
theorem esc_u5 {Z : Nat → Int} {n i : Nat} (hs : ¬ simB (Z i) = true) (h : Z i = 117 ∧ i + 5 ≤ n ∧ hexB (Z (i + 1)) = true ∧ hexB (Z (i + 2)) = true ∧ hexB (Z (i + 3)) = true ∧ hexB (Z (i + 4)) = true) : esc Z n i = 5 := by
  unfold esc; rw [if_neg (by omega), if_neg hs, if_pos h]
theorem esc_u0 {Z : Nat → Int} {n i : Nat} (hs : ¬ simB (Z i) = true) (h : ¬ (Z i = 117 ∧ i + 5 ≤ n ∧ hexB (Z (i + 1)) = true ∧ hexB (Z (i + 2)) = true ∧ hexB (Z (i + 3)) = true ∧ hexB (Z (i + 4)) = true)) : esc Z n i = 0 := by
  unfold esc
  by_cases hl : n ≤ i
  · rw [if_pos hl]
  · rw [if_neg hl, if_neg hs, if_neg h]

theorem four (a b c d : Bool) : a = false ∨ (a = true ∧ b = false) ∨ (a = true ∧ b = true ∧ c = false) ∨ (a = true ∧ b = true ∧ c = true ∧ d = false) ∨ (a = true ∧ b = true ∧ c = true ∧ d = true) := by
  cases a <;> cases b <;> cases c <;> cases d <;> simp

set_option maxRecDepth 100000 in
set_option maxHeartbeats 800000 in
theorem model_any (b off n cap p0 : Nat) (Z : Nat → Int) (w : World) (hc : ∀ i, i < n → w.cell? ⟨b, off + i, none⟩ = some (.int .u8 (Z i))) (hp : p0 ≤ n) (hm : n ≤ 1048576)
    (hcap : n ≤ cap) (hmax : cap ≤ 9223372036854775807) :
    Calls Yba.prog 7 #[.slice (some ⟨b, off, none⟩) n cap, .int .i64 p0] w (ModelPost Z n p0 b off cap w) := by
  obtain ⟨hp1, hp2⟩ := skip_le Z n n p0 hp
  have HF : Hid (fin Z n p0 = if skip Z n n p0 < n ∧ Z (skip Z n n p0) = 34 then scan Z n n (skip Z n n p0 + 1) else none) := rfl
  have HC : Hid (∀ i, i < n → w.cell? ⟨b, off + i, none⟩ = some (.int .u8 (Z i))) := hc
  clear hc
  unfold ModelPost
  generalize hfin : fin Z n p0 = F at *
  generalize hsk : skip Z n n p0 = p at *
  have HSK : Hid (skip Z n n p0 = p) := hsk
  clear hfin hsk
  go_enter Yba.func7, Yba.ntmps7
  go_wp2
  go_loop [7] (fun i => ∃ k : Nat, k ≤ n ∧ i = .int .i64 k ∧ skip Z n n k = p) (fun i => n - (intOf i).toNat)
  case atStart => exact ⟨p0, hp, rfl, HSK.out⟩
  case round =>
    clear HSK
    obtain ⟨k, hk, rfl, hsk⟩ := hrel
    have HK : Hid (skip Z n n k = p) := hsk
    clear hsk
    by_cases hlt : k < n
    · have ck := HC.out k hlt
      by_cases hw : wsB (Z k) = true
      · have HN : Hid (skip Z n n (k + 1) = p) := by show _ = _; rw [← skip_yes hlt hw]; exact HK.out
        rcases ws_yes hw with r1 | ⟨r1, r2⟩ | ⟨r1, r2, r3⟩ | ⟨r1, r2, r3, r4⟩
        all_goals
          clear hw
          go_wp2
          go_round
          case rel => exact ⟨k + 1, by omega, by go_num, HN.out⟩
          case measure => simp [intOf]; omega
      · have hkp : k = p := by rw [← HK.out, skip_no (fun h => hw h.2)]
        subst hkp
        clear HK
        obtain ⟨r1, r2, r3, r4⟩ := ws_no hw
        clear hw
        by_cases hq : Z k = 34
        · have HF2 : Hid (F = scan Z n n (k + 1)) := by show _ = _; rw [HF.out, if_pos ⟨hlt, hq⟩]
          rw [hq] at ck
          clear r1 r2 r3 r4 HF
          have HQ : Hid (Z k = 34) := hq
          clear hq
          go_wp2
          go_loop [8] (fun c => ∃ j : Nat, k < j ∧ j ≤ n ∧ c = .int .i64 j ∧ scan Z n n j = scan Z n n (k + 1)) (fun c => n - (intOf c).toNat)
          case atStart => exact ⟨k + 1, by omega, by omega, by go_num, rfl⟩
          case round =>
            clear ck
            obtain ⟨j, hj1, hj2, rfl, hsc⟩ := hrel
            have HSC : Hid (scan Z n n j = scan Z n n (k + 1)) := hsc
            clear hsc
            by_cases hjn : j < n
            · have cj := HC.out j hjn
              by_cases h34 : Z j = 34
              · have hF : Hid (F = some (j + 1)) := by show F = some (j + 1); rw [HF2.out, ← HSC.out, scan_quote hjn h34]
                rw [h34] at cj
                clear h34
                go_wp2
                go_ret3
                exact ⟨rfl, .inr ⟨j + 1, hF.out, rfl⟩⟩
              have e34 : (Z j == 34) = false := by rw [beq_eq_false_iff_ne]; exact h34
              by_cases h32 : Z j < 32
              · have hF : Hid (F = none) := by show F = none; rw [HF2.out, ← HSC.out, scan_low hjn h32]
                clear h34
                go_wp2
                go_ret3
                exact ⟨rfl, .inl ⟨hF.out, rfl⟩⟩
              by_cases h92 : Z j = 92
              · clear e34 h34 h32
                rw [h92] at cj
                have H92 : Hid (Z j = 92) := h92
                clear h92
                by_cases hlast : n ≤ j + 1
                · have hF : Hid (F = none) := by show F = none; rw [HF2.out, ← HSC.out, scan_esc0 hjn H92.out (by unfold esc; rw [if_pos hlast])]
                  go_wp2
                  go_ret3
                  exact ⟨rfl, .inl ⟨hF.out, rfl⟩⟩
                have cj1 := HC.out (j + 1) (by omega)
                by_cases hsim : simB (Z (j + 1)) = true
                · have he : esc Z n (j + 1) = 1 := esc_one (by omega) hsim
                  have hF : Hid (scan Z n n (j + 2) = scan Z n n (k + 1)) := by
                    show _ = _
                    rw [← HSC.out, scan_esc hjn H92.out (by omega), he]
                  clear he
                  rcases sim_yes hsim with s1 | ⟨s1, s2⟩ | ⟨s1, s2, s3⟩ | ⟨s1, s2, s3, s4⟩ | ⟨s1, s2, s3, s4, s5⟩ | ⟨s1, s2, s3, s4, s5, s6⟩ | ⟨s1, s2, s3, s4, s5, s6, s7⟩ | ⟨s1, s2, s3, s4, s5, s6, s7, s8⟩
                  all_goals
                    clear hsim
                    go_wp2
                    go_round
                    case rel => exact ⟨j + 2, by omega, by omega, by go_num, hF.out⟩
                    case measure => simp [intOf]; omega
                · obtain ⟨s1, s2, s3, s4, s5, s6, s7, s8⟩ := sim_no hsim
                  have none_of : esc Z n (j + 1) = 0 → F = none := fun h => by rw [HF2.out, ← HSC.out, scan_esc0 hjn H92.out h]
                  by_cases hu : Z (j + 1) = 117
                  · by_cases h5 : j + 5 < n
                    · have cj2 := HC.out (j + 2) (by omega)
                      have cj3 := HC.out (j + 3) (by omega)
                      have cj4 := HC.out (j + 4) (by omega)
                      have cj5 := HC.out (j + 5) (by omega)
                      rw [hu] at cj1
                      rcases four (hexB (Z (j + 2))) (hexB (Z (j + 3))) (hexB (Z (j + 4))) (hexB (Z (j + 5))) with x2 | ⟨x2, x3⟩ | ⟨x2, x3, x4⟩ | ⟨x2, x3, x4, x5⟩ | ⟨x2, x3, x4, x5⟩
                      iterate 4
                        · have hF : Hid (F = none) := none_of (esc_u0 hsim (by rintro ⟨_, _, y2, y3, y4, y5⟩; simp_all))
                          clear none_of hsim hu s1 s2 s3 s4 s5 s6 s7 s8
                          go_wp2_with (go_at_call 13; refine (hex_any _ _).mono ?_; rintro e w2 ⟨rfl, rfl⟩)
                          go_ret3
                          exact ⟨rfl, .inl ⟨hF.out, rfl⟩⟩
                      · have he : esc Z n (j + 1) = 5 := esc_u5 hsim ⟨hu, by omega, x2, x3, x4, x5⟩
                        have hF : Hid (scan Z n n (j + 6) = scan Z n n (k + 1)) := by
                          show _ = _
                          rw [← HSC.out, scan_esc hjn H92.out (by omega), he]
                        clear none_of hsim hu s1 s2 s3 s4 s5 s6 s7 s8 he
                        go_wp2_with (go_at_call 13; refine (hex_any _ _).mono ?_; rintro e w2 ⟨rfl, rfl⟩)
                        go_round
                        case rel => exact ⟨j + 6, by omega, by omega, by go_num, hF.out⟩
                        case measure => simp [intOf]; omega
                    · have hF : Hid (F = none) := none_of (esc_u0 hsim (by rintro ⟨_, y, _⟩; omega))
                      rw [hu] at cj1
                      clear none_of hsim hu s1 s2 s3 s4 s5 s6 s7 s8
                      go_wp2
                      go_ret3
                      exact ⟨rfl, .inl ⟨hF.out, rfl⟩⟩
                  · have hF : Hid (F = none) := none_of (esc_u0 hsim (by rintro ⟨y, _⟩; exact hu y))
                    have hu' : (Z (j + 1) == 117) = false := by rw [beq_eq_false_iff_ne]; exact hu
                    clear none_of hsim hu
                    go_wp2
                    go_ret3
                    exact ⟨rfl, .inl ⟨hF.out, rfl⟩⟩
              · have e92 : (Z j != 92) = true := by rw [bne_iff_ne]; exact h92
                have hF : Hid (scan Z n n (j + 1) = scan Z n n (k + 1)) := by show _ = _; rw [← scan_plain hjn h34 h32 h92]; exact HSC.out
                clear h34 h92
                go_wp2
                go_round
                case rel => exact ⟨j + 1, by omega, by omega, by go_num, hF.out⟩
                case measure => simp [intOf]; omega
            · have hF : Hid (F = none) := by show F = none; rw [HF2.out, ← HSC.out, scan_end Z (by omega)]
              go_wp2
              go_ret3
              exact ⟨rfl, .inl ⟨hF.out, rfl⟩⟩
        · have hF : Hid (F = none) := by show F = none; rw [HF.out, if_neg (by intro h; exact hq h.2)]
          have hq' : (Z k != 34) = true := by rw [bne_iff_ne]; exact hq
          clear hq
          go_wp2
          go_ret3
          exact ⟨rfl, .inl ⟨hF.out, rfl⟩⟩
    · have hkp : k = p := by rw [← HK.out, skip_no (fun h => hlt h.1)]
      subst hkp
      have hF : Hid (F = none) := by show F = none; rw [HF.out, if_neg (by omega)]
      go_wp2
      go_ret3
      exact ⟨rfl, .inl ⟨hF.out, rfl⟩⟩
end Go.Proofs.Ybulkdnue
