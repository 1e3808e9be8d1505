import Derived.Test.YbulkdnusALeaf
namespace Go.Proofs.Ybulkdnus
open Go.RowKit

def tot (L : Nat → Nat) : Nat → Nat
  | 0 => 0
  | k + 1 => tot L k + L k

theorem tot_mono (L : Nat → Nat) {a b : Nat} (h : a ≤ b) : tot L a ≤ tot L b := by
  induction b with
  | zero => have : a = 0 := by omega
            subst this; exact Nat.le_refl _
  | succ b ih =>
    by_cases e : a = b + 1
    · subst e; exact Nat.le_refl _
    · have := ih (by omega)
      simp only [tot]; omega

theorem tot_ge (L : Nat → Nat) {i m : Nat} (h : i < m) : L i ≤ tot L m := by
  have := tot_mono L (show i + 1 ≤ m by omega)
  simp only [tot] at this; omega

theorem wrap64_add (a b : Int) : wrap64 (wrap64 a + b) = wrap64 (a + b) := by unfold wrap64; omega

def fsz (fixed : Int) (L : Nat → Nat) (k : Nat) : Int := wrap64 (16 + fixed + (2 * k + tot L k : Nat))

theorem fsz_zero (fixed : Int) (L : Nat → Nat) : fsz fixed L 0 = wrap64 (16 + fixed) := by simp [fsz, tot]
theorem fsz_step (fixed : Int) (L : Nat → Nat) (k : Nat) : fsz fixed L (k + 1) = wrap64 (fsz fixed L k + (2 + (L k : Int))) := by
  unfold fsz
  rw [wrap64_add]
  congr 1
  simp only [tot]
  omega

/-- the row of pieces as the cells have it -/
def PRow (w : World) (b off m : Nat) (A : Nat → Option Addr) (L C : Nat → Nat) : Prop := ∀ i, i < m → w.cell? ⟨b, off + i, none⟩ = some (.slice (A i) (L i) (C i))

set_option maxHeartbeats 400000 in
theorem size_any (fixed : Int) (b off m cap : Nat) (A : Nat → Option Addr) (L C : Nat → Nat) (w : World) (h : PRow w b off m A L C) (hm : m ≤ 1048576) (ht : tot L m ≤ 16777216) :
    Calls Yba.prog 7 #[.int .i64 fixed, .slice (some ⟨b, off, none⟩) m cap] w fun e w' => e = .returned (.int .i64 (fsz fixed L m)) ∧ w' = w := by
  have HP : Hid (PRow w b off m A L C) := h
  clear h
  go_enter Yba.func7, Yba.ntmps7
  go_wp2
  go_loop [5, 12] (fun s i => ∃ k : Nat, k ≤ m ∧ i = .int .i64 k ∧ s = .int .i64 (fsz fixed L k)) (fun _ i => m - (intOf i).toNat)
  case atStart => exact ⟨0, Nat.zero_le _, rfl, by rw [fsz_zero]⟩
  case round =>
    obtain ⟨k, hk, rfl, rfl⟩ := hrel
    by_cases hlt : k < m
    · have ck := HP.out k hlt
      have hl := tot_ge L hlt
      have hl2 : L k ≤ 16777216 := by omega
      have HST : Hid (fsz fixed L (k + 1) = wrap64 (fsz fixed L k + (2 + (L k : Int)))) := fsz_step fixed L k
      clear hl
      go_wp2
      go_round
      case rel => exact ⟨k + 1, by omega, by go_num, by rw [HST.out]⟩
      case measure => simp [intOf]; omega
    · have hkm : k = m := by omega
      subst hkm
      go_wp2
      go_ret
      exact ⟨rfl, rfl⟩

set_option maxHeartbeats 400000 in
theorem size_zero (fixed : Int) (o : Option Addr) (cap : Nat) (w : World) :
    Calls Yba.prog 7 #[.int .i64 fixed, .slice o 0 cap] w fun e w' => e = .returned (.int .i64 (wrap64 (16 + fixed))) ∧ w' = w := by
  go_enter Yba.func7, Yba.ntmps7
  go_wp2
  refine wp_loop_rounds 1 ?_
  rw [rounds_succ]
  go_wp2
  go_ret
  exact ⟨rfl, rfl⟩
end Go.Proofs.Ybulkdnus
