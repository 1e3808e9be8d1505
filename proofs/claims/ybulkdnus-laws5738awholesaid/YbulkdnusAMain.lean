import Derived.Test.YbulkdnusACopy
namespace Go.Proofs.Ybulkdnus
open Go.RowKit

theorem str_zero (o : Option Addr) (cap : Nat) (w : World) : StrIs w (.slice o 0 cap) ByteArray.empty := fun _ => conv_zero o cap _

theorem str_at (b off n cap : Nat) (Z : Nat → Int) (w : World) (hc : ∀ i, i < n → w.cell? ⟨b, off + i, none⟩ = some (.int .u8 (Z i))) : StrIs w (.slice (some ⟨b, off, none⟩) n cap) (bstr Z n) :=
  fun _ => conv_at b off n cap Z _ (fun i hi => by simpa using hc i hi)

theorem alike_of {w w1 : World} {b off m : Nat} {A : Nat → Option Addr} {L C : Nat → Nat} {Z : Nat → Nat → Int} (hp : PRow w b off m A L C) (hpc : ∀ i, i < m → Piece w (A i) (L i) (Z i)) (hbw : b < w.heap.size) (h : Cp w w1 m m A L Z) :
    Alike2 w1 b off w.heap.size m A L C := fun i hi => by
  refine ⟨(h.bel.cell (p := ⟨b, off + i, none⟩) hbw).trans (hp i hi), ?_⟩
  obtain ⟨v, hv, hc⟩ := h.done i hi
  obtain ⟨p1, p2⟩ := hpc i hi
  rcases hc with ⟨hA, rfl⟩ | ⟨hA, g, c, rfl, _, _, hz⟩
  · have hL := p1 hA
    refine ⟨none, 0, ByteArray.empty, by rw [hv, hL], by rw [hA], ?_, ?_⟩
    · rw [hL]; exact str_zero _ _ _
    · rw [hL]; exact str_zero _ _ _
  · by_cases hL : L i = 0
    · refine ⟨some ⟨g, 0, none⟩, c, ByteArray.empty, hv, by rw [hA]; rfl, ?_, ?_⟩
      · rw [hL]; exact str_zero _ _ _
      · rw [hL]; exact str_zero _ _ _
    · obtain ⟨pb, po, hpa, hpz⟩ := p2 (by omega)
      have hpb : pb < w.heap.size := World.block_lt_of_cell? w _ (hpz 0 (by omega))
      refine ⟨some ⟨g, 0, none⟩, c, bstr (Z i) (L i), hv, by rw [hA]; rfl, ?_, ?_⟩
      · rw [hpa]; exact str_at _ _ _ _ _ _ (fun j hj => (h.bel.cell (p := ⟨pb, po + j, none⟩) hpb).trans (hpz j hj))
      · exact str_at _ _ _ _ _ _ (fun j hj => by rw [Nat.zero_add]; exact hz j hj)

theorem want_eq (fixed : Int) (L : Nat → Nat) (m : Nat) : wrap64 (wrap64 (wrap64 (16 + fixed) + 2 * (m : Int)) + (tot L m : Int)) = fsz fixed L m := by
  rw [wrap64_add, Int.add_assoc, wrap64_add]
  unfold fsz
  congr 1

set_option maxHeartbeats 800000 in
theorem walk_full (fixed : Int) (b off m cap : Nat) (A : Nat → Option Addr) (L C : Nat → Nat) (Z : Nat → Nat → Int) (w : World) (hp : PRow w b off m A L C) (hpc : ∀ i, i < m → Piece w (A i) (L i) (Z i)) (hm0 : 0 < m) (hm : m ≤ 1048576) (hL : ∀ i, i < m → L i ≤ 140737488351232) :
    Calls Yba.prog 3 #[.int .i64 fixed, .slice (some ⟨b, off, none⟩) m cap] w fun e w' => e = .returned (.bool true) ∧ Below w.heap.size w w' := by
  have hbw : b < w.heap.size := World.block_lt_of_cell? w _ (hp 0 hm0)
  have HP : Hid (PRow w b off m A L C) := hp
  have HPC : Hid (∀ i, i < m → Piece w (A i) (L i) (Z i)) := hpc
  clear hp hpc
  go_enter Yba.func3, Yba.ntmps3
  go_wp2
  go_loop [5, 6] (fun t i => ∃ k : Nat, k ≤ m ∧ i = .int .i64 k ∧ t = .int .i64 (tot L k) ∧ tot L k ≤ 16777216) (fun _ i => m - (intOf i).toNat)
  case atStart => exact ⟨0, Nat.zero_le _, rfl, rfl, by simp [tot]⟩
  case round =>
    obtain ⟨k, hk, rfl, rfl, htk⟩ := hrel
    by_cases hlt : k < m
    · have ck := HP.out k hlt
      have hlk := hL k hlt
      go_wp2
      · go_ret
        exact ⟨rfl, Below.refl _ _⟩
      · go_round
        case rel => exact ⟨k + 1, by omega, by go_num, by simp [tot], by simp only [tot]; omega⟩
        case measure => simp [intOf]; omega
    · have hkm : k = m := by omega
      subst hkm
      have hcl := clone_any b off k cap A L C Z w HP.out HPC.out hm0 hm htk
      go_wp2_with fail
      refine hcl.mono ?_
      clear hcl
      rintro e w1 ⟨rfl, hcp⟩
      have HCP : Hid (Cp w w1 k k A L Z) := hcp
      have hsz := size_any fixed b off k cap A L C w1 (fun i hi => (hcp.bel.cell (p := ⟨b, off + i, none⟩) hbw).trans (HP.out i hi)) hm htk
      have hsm := same_any b off w.heap.size k cap A L C w1 (alike_of HP.out HPC.out hbw hcp) hm
      clear hcp
      go_wp2_with fail
      refine hsz.mono ?_
      clear hsz
      rintro e w1 ⟨rfl, rfl⟩
      have hweq := want_eq fixed L k
      go_wp2_with fail
      refine hsm.mono ?_
      clear hsm
      rintro e w2 ⟨rfl, q, rfl⟩
      go_wp2
      go_ret
      exact ⟨rfl, below_drewN HCP.out.bel _⟩

set_option maxHeartbeats 400000 in
theorem walk_big (fixed : Int) (o : Option Addr) (m cap : Nat) (w : World) (hm : 1048576 < m) (hx : m ≤ 9223372036854775807) :
    Calls Yba.prog 3 #[.int .i64 fixed, .slice o m cap] w fun e w' => e = .returned (.bool true) ∧ Below w.heap.size w w' := by
  go_enter Yba.func3, Yba.ntmps3
  go_wp2
  go_ret
  exact ⟨rfl, Below.refl _ _⟩

theorem wrap64_idem (a : Int) : wrap64 (wrap64 a) = wrap64 a := by unfold wrap64; omega

set_option maxHeartbeats 400000 in
theorem walk_nil (fixed : Int) (w : World) :
    Calls Yba.prog 3 #[.int .i64 fixed, .slice none 0 0] w fun e w' => e = .returned (.bool true) ∧ Below w.heap.size w w' := by
  have hid := wrap64_idem
  go_enter Yba.func3, Yba.ntmps3
  go_wp2
  refine wp_loop_rounds 1 ?_
  rw [rounds_succ]
  go_wp2_with (first
    | (go_at_call 6; refine (clone_nil _).mono ?_; rintro e w1 ⟨rfl, rfl⟩)
    | (go_at_call 7; refine (size_zero _ _ _ _).mono ?_; rintro e w1 ⟨rfl, rfl⟩)
    | (go_at_call 8; refine (same_nil _).mono ?_; rintro e w1 ⟨rfl, rfl⟩))
  go_ret
  exact ⟨rfl, Below.refl _ _⟩

set_option maxHeartbeats 400000 in
theorem walk_zero (fixed : Int) (a : Addr) (cap : Nat) (w : World) :
    Calls Yba.prog 3 #[.int .i64 fixed, .slice (some a) 0 cap] w fun e w' => e = .returned (.bool true) ∧ Below w.heap.size w w' := by
  have hid := wrap64_idem
  go_enter Yba.func3, Yba.ntmps3
  go_wp2
  refine wp_loop_rounds 1 ?_
  rw [rounds_succ]
  go_wp2_with (first
    | (go_at_call 6; refine (clone_zero _ _ _).mono ?_; rintro e w1 ⟨rfl, hb⟩)
    | (go_at_call 7; refine (size_zero _ _ _ _).mono ?_; rintro e w1 ⟨rfl, rfl⟩)
    | (go_at_call 8; refine (same_zero _ _ _ _ _).mono ?_; rintro e w1 ⟨rfl, rfl⟩))
  go_ret
  exact ⟨rfl, hb⟩
end Go.Proofs.Ybulkdnus
