import Derived.Test.YbulkdnxyAt
import Derived.Deep.MidRow
namespace Go.Proofs.Ybulkdnxy
open Go.RowKit
set_option linter.unusedVariables false

theorem info25 : (Yba.prog.info? 25).map (fun i => (i.zero, i.size, i.bytes)) = some (some (.pointer none), 1, 8) := by kernel_rfl

def madeP (n : Nat) : Array Value := madeCells #[.pointer none] n

theorem run_mkP (n : Nat) (hn : n * 8 ≤ 281474976710656) (w : World) : (Instr.makeSlice 24 (.int .i64 n) (.int .i64 n)).run Yba.prog w = .ok (.slice (some ⟨w.heap.size, 0, none⟩) n n) (w.alloc (.cells (madeP n) 25)) := by
  obtain ⟨i, hi, hz0, hz1, hz2⟩ := info_parts info25
  have := run_make (P := Yba.prog) w 24 25 i (.pointer none) Yba.underlying24 hi hz0 .i64 .i64 n n (by omega) (by omega) (by rw [hz2]; omega) (by omega)
  rw [this, hz1]; simp [madeP, Value.cells]

theorem madeP_at {n i : Nat} (h : i < n) : (madeP n)[i]? = some (.pointer none) := by
  have h1 : (madeP n).toList = List.replicate n (.pointer none) := toList_madeCells_one _ n
  have : (madeP n)[i]? = (madeP n).toList[i]? := by simp
  rw [this, h1]; simp [h]

/-- the table of nodes while it is made -/
structure B1 (w wr : World) (nn k : Nat) : Prop where
  bel : Below w.heap.size w wr
  size : wr.heap.size = w.heap.size + 1 + k
  row : ∀ i, i < k → wr.cell? ⟨w.heap.size, i, none⟩ = some (.pointer (some ⟨w.heap.size + 1 + i, 0, none⟩))
  room : wr.there w.heap.size 0 nn
  obj : ∀ i, i < k → wr.heap[w.heap.size + 1 + i]? = some (nodeObj (.map none) (.slice none 0 0) none)

theorem B1.start (w : World) (nn : Nat) : B1 w (w.alloc (.cells (madeP nn) 25)) nn 0 where
  bel := (Below.refl _ _).alloc (Nat.le_refl _) _
  size := by simp
  row := fun i hi => absurd hi (Nat.not_lt_zero _)
  room := fun j hj => by
    refine ⟨?_, World.frozen?_alloc_new w _ _ _⟩
    rw [World.cell?, heap_alloc_new]
    show ((madeP nn)[0 + j]?).isSome = true
    rw [Nat.zero_add, madeP_at hj]; rfl
  obj := fun i hi => absurd hi (Nat.not_lt_zero _)

theorem B1.cell {w wr : World} {nn k : Nat} (h : B1 w wr nn k) (hk : k < nn) : ∃ u, wr.cell? ⟨w.heap.size, k, none⟩ = some u := by
  have := (h.room k hk).1
  rw [Nat.zero_add] at this
  exact Option.isSome_iff_exists.1 this
theorem B1.free {w wr : World} {nn k : Nat} (h : B1 w wr nn k) (hk : k < nn) : wr.frozen? ⟨w.heap.size, k, none⟩ = false := by
  have := (h.room k hk).2
  rwa [Nat.zero_add] at this

theorem B1.step {w wr : World} {nn k : Nat} (h : B1 w wr nn k) (hk : k < nn) :
    B1 w ((wr.setCell ⟨w.heap.size, k, none⟩ (.pointer (some ⟨wr.heap.size, 0, none⟩))).alloc (nodeObj (.map none) (.slice none 0 0) none)) nn (k + 1) where
  bel := (h.bel.setCell (Nat.le_refl _) _).alloc (by simp [h.size]; omega) _
  size := by simp [h.size]; omega
  row := fun i hi => by
    obtain ⟨u, hu⟩ := h.cell hk
    have hlt : w.heap.size < wr.heap.size := by rw [h.size]; omega
    rw [World.cell?_alloc_lt _ _ _ (by simpa using hlt)]
    by_cases e : i = k
    · subst e; rw [World.cell?_setCell_same _ _ _ hu, h.size]
    · rw [World.cell?_setCell_other _ _ _ _ (by simp only [ne_eq, Addr.mk.injEq]; omega)]; exact h.row i (by omega)
  room := World.there_alloc (World.there_setCells h.room w.heap.size k [.pointer (some ⟨wr.heap.size, 0, none⟩)]) _
  obj := fun i hi => by
    by_cases e : i = k
    · subst e
      have := heap_alloc_new (wr.setCell ⟨w.heap.size, i, none⟩ (.pointer (some ⟨wr.heap.size, 0, none⟩))) (nodeObj (.map none) (.slice none 0 0) none)
      rw [World.size_setCell, h.size] at this
      rw [h.size, this]
    · rw [Below.heap_alloc _ _ _ (by simp [h.size]; omega), Below.heap_setCell _ _ _ _ (by show _ ≠ w.heap.size; omega)]
      exact h.obj i (by omega)

/-- the nodes while they are filled: i are done -/
structure B2 (w wr : World) (nn i : Nat) (N : Nat → Nd) : Prop where
  bel : Below w.heap.size w wr
  size : w.heap.size + 1 + nn ≤ wr.heap.size
  row : ∀ j, j < nn → wr.cell? ⟨w.heap.size, j, none⟩ = some (.pointer (some ⟨w.heap.size + 1 + j, 0, none⟩))
  done : ∀ j, j < i → NodeOK wr (w.heap.size + 1) (w.heap.size + 1 + nn) nn (w.heap.size + 1 + j) (N j)
  todo : ∀ j, i ≤ j → j < nn → wr.heap[w.heap.size + 1 + j]? = some (nodeObj (.map none) (.slice none 0 0) none)

theorem B2.start {w wr : World} {nn : Nat} (h : B1 w wr nn nn) (N : Nat → Nd) : B2 w wr nn 0 N where
  bel := h.bel
  size := by rw [h.size]; omega
  row := h.row
  done := fun j hj => absurd hj (Nat.not_lt_zero _)
  todo := fun j _ hj => h.obj j hj

/-- one round of the filling, from wr to w': only node i's own block and new blocks have turned -/
theorem B2.step {w wr w' : World} {nn i : Nat} {N : Nat → Nd} (h : B2 w wr nn i N) (hi : i < nn) (hg : wr.grownBy w' (some (w.heap.size + 1 + i)))
    (hn : NodeOK w' (w.heap.size + 1) (w.heap.size + 1 + nn) nn (w.heap.size + 1 + i) (N i)) : B2 w w' nn (i + 1) N where
  bel := h.bel.grown hg (by have := h.size; omega) (fun k hk => by cases hk; omega)
  size := Nat.le_trans h.size hg.size
  row := fun j hj => (World.cell?_of_block (hg.block w.heap.size (by have := h.size; omega) (by simp; omega))).trans (h.row j hj)
  done := fun j hj => by
    by_cases e : j = i
    · subst e; exact hn
    · have hs := h.size
      refine (h.done j (by omega)).kept hg.size (hg.block _ (by omega) (by simp; omega)) (fun k h1 h2 => hg.block k h2 (by simp; omega))
  todo := fun j h1 h2 => by
    have hs := h.size
    rw [hg.block (w.heap.size + 1 + j) (by omega) (by simp; omega)]
    exact h.todo j (by omega) h2

/-! grownBy: small steps -/
theorem gb_refl (w : World) (row : Option Nat) : w.grownBy w row := ⟨rfl, rfl, rfl, Nat.le_refl _, fun _ _ _ => rfl⟩
theorem gb_alloc {w w' : World} {row : Option Nat} (h : w.grownBy w' row) (o : Obj) : w.grownBy (w'.alloc o) row :=
  ⟨h.os, h.tape, h.output, Nat.le_trans h.size (by simp), fun k hk hn => (Below.heap_alloc _ _ _ (Nat.lt_of_lt_of_le hk h.size)).trans (h.block k hk hn)⟩
theorem gb_set {w w' : World} {b : Nat} (h : w.grownBy w' (some b)) (p : Addr) (hp : p.block = b ∨ w.heap.size ≤ p.block) (u : Value) : w.grownBy (w'.setCell p u) (some b) :=
  ⟨h.os, h.tape, h.output, by simpa using h.size, fun k hk hn => (Below.heap_setCell _ _ _ _ (by
    rcases hp with hp | hp
    · intro e; apply hn; rw [e, hp]
    · omega)).trans (h.block k hk hn)⟩
theorem gb_putB {w w' : World} {row : Option Nat} (h : w.grownBy w' row) {r : Nat} (hr : w.heap.size ≤ r) (o : Obj) : w.grownBy (putB w' r o) row :=
  ⟨h.os, h.tape, h.output, by simpa [putB] using h.size, fun k hk hn => by
    show (w'.heap.setIfInBounds r o)[k]? = _
    rw [Array.getElem?_setIfInBounds_ne (by omega)]
    exact h.block k hk hn⟩
theorem gb_drewN {w w' : World} {row : Option Nat} (h : w.grownBy w' row) (n : Nat) : w.grownBy (w'.drewN n) row := ⟨h.os, h.tape, h.output, h.size, h.block⟩
theorem gb_drew {w w' : World} {row : Option Nat} (h : w.grownBy w' row) : w.grownBy w'.drew row := ⟨h.os, h.tape, h.output, h.size, h.block⟩

end Go.Proofs.Ybulkdnxy
