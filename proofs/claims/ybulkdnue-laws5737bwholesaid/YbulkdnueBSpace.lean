import Derived.Test.YbulkdnueBPlain
import Derived.WalkKit
import Derived.WalkSpells
import Derived.WalkLawsBesides
import Derived.Deep.QuietTactic
import Derived.BigQuiet
import Derived.Deep.LoopGhost
import Derived.WalkSmall
namespace Go.Proofs.Ybulkdnue
open Go.RowKit

/-- the scanner's two cells -/
structure Scn (w : World) (S : Nat) (v : Value) (a : Nat) : Prop where
  c0 : w.cell? ⟨S, 0, none⟩ = some v
  c1 : w.cell? ⟨S, 1, none⟩ = some (.int .i64 a)
  f1 : w.frozen? ⟨S, 1, none⟩ = false

theorem Scn.drewN {w : World} {S : Nat} {v : Value} {a : Nat} (h : Scn w S v a) (n : Nat) : Scn (w.drewN n) S v a := ⟨by simpa using h.c0, by simpa using h.c1, by simpa using h.f1⟩
theorem Scn.drew {w : World} {S : Nat} {v : Value} {a : Nat} (h : Scn w S v a) : Scn w.drew S v a := ⟨by simpa using h.c0, by simpa using h.c1, by simpa using h.f1⟩
theorem Scn.set {w : World} {S : Nat} {v : Value} {a : Nat} (h : Scn w S v a) (a' : Nat) : Scn (w.setCell ⟨S, 1, none⟩ (.int .i64 a')) S v a' where
  c0 := by rw [World.cell?_setCell_other _ _ _ _ (by simp)]; exact h.c0
  c1 := by rw [World.cell?_setCell_same _ _ _ h.c1]
  f1 := by rw [World.frozen?_setCell]; exact h.f1

set_option maxHeartbeats 400000 in
theorem space_any (b off n cap S p0 : Nat) (Z : Nat → Int) (w : World) (hc : ∀ i, i < n → w.cell? ⟨b, off + i, none⟩ = some (.int .u8 (Z i))) (hbS : b < S) (hs : Scn w S (.slice (some ⟨b, off, none⟩) n cap) p0) (hp : p0 ≤ n) (hm : n ≤ 1048576) :
    Calls Yba.prog 14 #[.pointer (some ⟨S, 0, none⟩)] w fun e w' => e = .returned (.tuple #[]) ∧ Scn w' S (.slice (some ⟨b, off, none⟩) n cap) (skip Z n n p0) ∧ Below S w w' := by
  have HC : Hid (∀ i, i < n → w.cell? ⟨b, off + i, none⟩ = some (.int .u8 (Z i))) := hc
  have HS : Hid (Scn w S (.slice (some ⟨b, off, none⟩) n cap) p0) := hs
  clear hc hs
  go_enter Yba.func14, Yba.ntmps14
  go_wp2
  go_loopg [2] (n - p0) (fun g _ wr => ∃ k : Nat, k ≤ n ∧ g = n - k ∧ skip Z n n k = skip Z n n p0 ∧ Scn wr S (.slice (some ⟨b, off, none⟩) n cap) k ∧ Below S w wr)
  case atStart => exact ⟨p0, hp, rfl, rfl, HS.out, Below.refl _ _⟩
  case round =>
    obtain ⟨k, hk, rfl, hsk, hS, hB⟩ := hrel
    clear HS
    have HK : Hid (skip Z n n k = skip Z n n p0) := hsk
    obtain ⟨c0, c1, f1⟩ := hS
    have HSS : Hid (Scn wr S (.slice (some ⟨b, off, none⟩) n cap) k) := ⟨c0, c1, f1⟩
    have HB : Hid (Below S w wr) := hB
    clear hsk hB
    by_cases hlt : k < n
    · have cz : wr.cell? ⟨b, off + k, none⟩ = some (.int .u8 (Z k)) := (HB.out.cell (p := ⟨b, off + k, none⟩) hbS).trans (HC.out k hlt)
      have i0 : (0 : Int) ≤ (k : Int) := by omega
      have i1 : (k : Int) < (n : Int) := by omega
      go_wp2
      go_quiet (fail)
      go_wp2
      go_quiet (fail)
      go_wp2
      iterate 4
        · have hw : wsB (Z k) = true := by simp_all [wsB]
          have hn1 := (skip_yes hlt hw).symm.trans HK.out
          go_roundg (n - (k + 1))
          case measure => omega
          case rel => exact ⟨k + 1, by omega, rfl, hn1, by simpa using (HSS.out.drewN _).set (k + 1), (below_drewN HB.out _).setCell (Nat.le_refl _) _⟩
      · have hw : ¬ (k < n ∧ wsB (Z k) = true) := by simp_all [wsB]
        have hn1 := (skip_no hw).symm.trans HK.out
        refine bodyPost_ret (results_none rfl _ _ _) rfl ?_
        rw [← hn1]
        exact ⟨rfl, HSS.out.drewN _, below_drewN HB.out _⟩
    · have i1 : decide ((k : Int) < (n : Int)) = false := by simp; omega
      go_wp2
      go_quiet (fail)
      go_wp2
      go_end0
      rw [← HK.out, skip_no (by omega)]
      exact ⟨rfl, HSS.out.drewN _, below_drewN HB.out _⟩

set_option maxHeartbeats 400000 in
theorem space_zero (o : Option Addr) (cap S : Nat) (w : World) (hs : Scn w S (.slice o 0 cap) 0) :
    Calls Yba.prog 14 #[.pointer (some ⟨S, 0, none⟩)] w fun e w' => e = .returned (.tuple #[]) ∧ Scn w' S (.slice o 0 cap) 0 ∧ Below S w w' := by
  have HS : Hid (Scn w S (.slice o 0 cap) 0) := hs
  obtain ⟨c0, c1, f1⟩ := hs
  go_enter Yba.func14, Yba.ntmps14
  go_wp2
  refine wp_loop_rounds 1 ?_
  rw [rounds_succ]
  go_wp2
  go_quiet (fail)
  go_wp2
  go_end0
  exact ⟨rfl, HS.out.drewN _, below_drewN (Below.refl _ _) _⟩
end Go.Proofs.Ybulkdnue
