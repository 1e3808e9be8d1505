import Derived.Test.YbulkdnueCLeaf
namespace Go.Proofs.Ybulkdnue
open Go.RowKit

structure Src where
  s : ByteArray
  wt : Nat
  l : Nat
  d : Bool
  c : Bool
  st : Bool
  q : Bool

def Src.used (x : Src) : Bool := Ybulkdnue.used x.l x.d x.c x.st

/-- the fifteen cells of the indexSource that the law builds of x -/
def Src.cells (x : Src) : Array Value := #[.string x.s, .float .f64 x.wt, .float .f64 x.l, .int .u64 0, .int .i64 0, .pointer none, .bool x.d, .bool x.c, .slice none 0 0, .slice none 0 0, .bool x.q, .int .u64 0, .int .i64 0, .pointer none, .bool x.st]

def SrcRow (w : World) (g n : Nat) (X : Nat → Src) : Prop :=
  ∀ i, i < n → ∀ j u, (X i).cells[j]? = some u → w.cell? ⟨g, i * 15 + j, none⟩ = some u

/-- how many of the first k are in use -/
def cnt (X : Nat → Src) : Nat → Nat
  | 0 => 0
  | k + 1 => cnt X k + if (X k).used then 1 else 0

/-- the last of the first k in use, or -1 -/
def lastIx (X : Nat → Src) : Nat → Int
  | 0 => -1
  | k + 1 => if (X k).used then k else lastIx X k

def loneP (g : Nat) (X : Nat → Src) (n : Nat) : Option Addr := if cnt X n = 1 then some ⟨g, (lastIx X n).toNat * 15, none⟩ else none

theorem cnt_mono (X : Nat → Src) {a b : Nat} (h : a ≤ b) : cnt X a ≤ cnt X b := by
  induction b with
  | zero => have : a = 0 := by omega
            subst this; exact Nat.le_refl _
  | succ b ih =>
    by_cases e : a = b + 1
    · subst e; exact Nat.le_refl _
    · have := ih (by omega)
      simp only [cnt]; omega

theorem SrcRow.at {w : World} {g n i : Nat} {X : Nat → Src} (h : SrcRow w g n X) (hi : i < n) :
    w.cell? ⟨g, i * 15, none⟩ = some (.string (X i).s) ∧ w.cell? ⟨g, i * 15 + 1, none⟩ = some (.float .f64 (X i).wt) ∧ w.cell? ⟨g, i * 15 + 2, none⟩ = some (.float .f64 (X i).l) ∧ w.cell? ⟨g, i * 15 + 3, none⟩ = some (.int .u64 0) ∧ w.cell? ⟨g, i * 15 + 4, none⟩ = some (.int .i64 0) ∧ w.cell? ⟨g, i * 15 + 5, none⟩ = some (.pointer none) ∧ w.cell? ⟨g, i * 15 + 6, none⟩ = some (.bool (X i).d) ∧ w.cell? ⟨g, i * 15 + 7, none⟩ = some (.bool (X i).c) ∧ w.cell? ⟨g, i * 15 + 8, none⟩ = some (.slice none 0 0) ∧ w.cell? ⟨g, i * 15 + 9, none⟩ = some (.slice none 0 0) ∧ w.cell? ⟨g, i * 15 + 10, none⟩ = some (.bool (X i).q) ∧ w.cell? ⟨g, i * 15 + 11, none⟩ = some (.int .u64 0) ∧ w.cell? ⟨g, i * 15 + 12, none⟩ = some (.int .i64 0) ∧ w.cell? ⟨g, i * 15 + 13, none⟩ = some (.pointer none) ∧ w.cell? ⟨g, i * 15 + 14, none⟩ = some (.bool (X i).st) :=
  ⟨h i hi 0 _ rfl, h i hi 1 _ rfl, h i hi 2 _ rfl, h i hi 3 _ rfl, h i hi 4 _ rfl, h i hi 5 _ rfl, h i hi 6 _ rfl, h i hi 7 _ rfl, h i hi 8 _ rfl, h i hi 9 _ rfl, h i hi 10 _ rfl, h i hi 11 _ rfl, h i hi 12 _ rfl, h i hi 13 _ rfl, h i hi 14 _ rfl⟩

theorem SrcRow.kept {w w' : World} {g n : Nat} {X : Nat → Src} (h : SrcRow w g n X) {B : Nat} (hb : Below B w w') (hg : g < B) : SrcRow w' g n X :=
  fun i hi j u hu => (hb.cell (p := ⟨g, i * 15 + j, none⟩) hg).trans (h i hi j u hu)

theorem step_no {g k : Nat} {X : Nat → Src} (h : (!used (X k).l (X k).d (X k).c (X k).st) = true) : cnt X (k + 1) = cnt X k ∧ loneP g X (k + 1) = loneP g X k := by
  have h' : (X k).used = false := by simpa [Src.used] using h
  simp [cnt, loneP, lastIx, h']

theorem step_second {g k n : Nat} {X : Nat → Src} (h : (!used (X k).l (X k).d (X k).c (X k).st) = false) (hs : (loneP g X k).isSome = true) (hk : k < n) : loneP g X n = none := by
  have h' : (X k).used = true := by simpa [Src.used] using h
  have h1 : cnt X k = 1 := by
    unfold loneP at hs
    split at hs
    · assumption
    · simp at hs
  have h2 : cnt X (k + 1) = 2 := by simp [cnt, h', h1]
  have h3 := cnt_mono X (show k + 1 ≤ n by omega)
  unfold loneP
  rw [if_neg (by omega)]

theorem step_first {g k : Nat} {X : Nat → Src} (h : (!used (X k).l (X k).d (X k).c (X k).st) = false) (hs : (loneP g X k).isSome = false) (hc : cnt X k ≤ 1) :
    cnt X (k + 1) ≤ 1 ∧ loneP g X (k + 1) = some ⟨g, k * 15, none⟩ := by
  have h' : (X k).used = true := by simpa [Src.used] using h
  have h1 : cnt X k = 0 := by
    unfold loneP at hs
    split at hs
    · simp at hs
    · omega
  simp [cnt, loneP, lastIx, h', h1]

set_option maxHeartbeats 400000 in
theorem lone_any (g n : Nat) (X : Nat → Src) (w : World) (hrow : SrcRow w g n X) (hg : g < w.heap.size) (hn : n ≤ 1048576) :
    Calls Yba.prog 11 #[.slice (some ⟨g, 0, none⟩) n n] w fun e w' => e = .returned (.pointer (loneP g X n)) ∧ Below w.heap.size w w' := by
  go_enter Yba.func11, Yba.ntmps11
  go_wp2
  go_loopw [3, 7] (fun p i wr => ∃ k : Nat, k ≤ n ∧ i = .int .i64 k ∧ cnt X k ≤ 1 ∧ p = .pointer (loneP g X k) ∧ Below w.heap.size w wr) (fun _ i _ => n - (intOf i).toNat)
  case atStart => exact ⟨0, Nat.zero_le _, rfl, by simp [cnt], by simp [loneP, cnt], Below.refl _ _⟩
  case round =>
    obtain ⟨k, hk, rfl, hc1, rfl, hb⟩ := hrel
    by_cases hlt : k < n
    · obtain ⟨c0, c1, c2, c3, c4, c5, c6, c7, c8, c9, c10, c11, c12, c13, c14⟩ := (hrow.kept hb hg).at hlt
      have HB : Hid (Below w.heap.size w wr) := hb
      have HR : Hid (SrcRow w g n X) := hrow
      clear hrow hb
      go_wp2_with (go_at_call 16; refine (inUse_any (X k).s (X k).wt (X k).l (X k).d (X k).c (X k).st (X k).q _ _ _ _ _ _ _ _ _).mono ?_; rintro e w2 ⟨rfl, hb2⟩)
      · have hs := step_no (g := g) ‹_›
        go_roundw
        case rel => exact ⟨k + 1, by omega, by go_num, by omega, by rw [hs.2], HB.out.trans (hb2.mono HB.out.size)⟩
        case measure => simp [intOf]; omega
      · have hs := step_second (g := g) ‹_› ‹_› hlt
        go_ret
        exact ⟨by rw [hs]; rfl, HB.out.trans (hb2.mono HB.out.size)⟩
      · have hs := step_first (g := g) ‹_› ‹_› hc1
        go_roundw
        case rel => exact ⟨k + 1, by omega, by go_num, hs.1, by rw [hs.2], HB.out.trans (hb2.mono HB.out.size)⟩
        case measure => simp [intOf]; omega
    · have : k = n := by omega
      subst this
      clear hrow
      go_wp2
      go_ret
      exact ⟨rfl, hb⟩

set_option maxHeartbeats 400000 in
theorem lone_nil (w : World) : Calls Yba.prog 11 #[.slice none 0 0] w fun e w' => e = .returned (.pointer none) ∧ w' = w := by
  go_enter Yba.func11, Yba.ntmps11
  go_wp2
  refine wp_loop_rounds 1 ?_
  rw [rounds_succ]
  go_wp2
  go_ret
  exact ⟨rfl, rfl⟩
end Go.Proofs.Ybulkdnue
