import Derived.Test.YbulkdnusBGrow
import Derived.Deep.MidRow
namespace Go.Proofs.Ybulkdnus
open Go.RowKit

theorem info30 : (Yba.prog.info? 30).map (fun i => (i.zero, i.size, i.bytes)) = some (some (.pointer none), 1, 8) := by kernel_rfl

def madeP (n : Nat) : Array Value := madeCells #[.pointer none] n

theorem run_mkP (n : Nat) (hn : n ≤ 1048576) (w : World) : (Instr.makeSlice 29 (.int .i64 n) (.int .i64 n)).run Yba.prog w = .ok (.slice (some ⟨w.heap.size, 0, none⟩) n n) (w.alloc (.cells (madeP n) 30)) := by
  obtain ⟨i, hi, hz0, hz1, hz2⟩ := info_parts info30
  have := run_make (P := Yba.prog) w 29 30 i (.pointer none) Yba.underlying29 hi hz0 .i64 .i64 n n (by omega) (by omega) (by rw [hz2]; omega) (by omega)
  rw [this, hz1]; simp [madeP, Value.cells]

def strmObj (h : Int) : Obj := .cells #[.int .i64 h, .nilFunc, .bool false] 32 (0, 0)

/-- the streams' row and the streams, while they are built -/
structure Strm (w wr : World) (m k : Nat) (H : Nat → Int) : Prop where
  bel : Below w.heap.size w wr
  size : wr.heap.size = w.heap.size + 1 + k
  row : ∀ i, i < k → wr.cell? ⟨w.heap.size, i, none⟩ = some (.pointer (some ⟨w.heap.size + 1 + i, 0, none⟩))
  room : wr.there w.heap.size 0 m
  obj : ∀ i, i < k → wr.heap[w.heap.size + 1 + i]? = some (strmObj (H i))

theorem Strm.start (w : World) (m : Nat) (H : Nat → Int) : Strm w (w.alloc (.cells (madeP m) 30)) m 0 H where
  bel := (Below.refl _ _).alloc (Nat.le_refl _) _
  size := by simp
  row := fun i hi => absurd hi (Nat.not_lt_zero _)
  room := fun j hj => by
    refine ⟨?_, World.frozen?_alloc_new w _ _ _⟩
    rw [World.cell?, heap_alloc_new]
    have : (0 + j) < (madeP m).size := by rw [madeP, size_madeCells]; omega
    show ((madeP m)[0 + j]?).isSome = true
    rw [Array.getElem?_eq_getElem this]; rfl
  obj := fun i hi => absurd hi (Nat.not_lt_zero _)

theorem Strm.cell {w wr : World} {m k : Nat} {H : Nat → Int} (h : Strm w wr m k H) (hk : k < m) : ∃ u, wr.cell? ⟨w.heap.size, k, none⟩ = some u := by
  have := (h.room k hk).1
  rw [Nat.zero_add] at this
  exact Option.isSome_iff_exists.1 this
theorem Strm.free {w wr : World} {m k : Nat} {H : Nat → Int} (h : Strm w wr m k H) (hk : k < m) : wr.frozen? ⟨w.heap.size, k, none⟩ = false := by
  have := (h.room k hk).2
  rwa [Nat.zero_add] at this

theorem Strm.step {w wr : World} {m k : Nat} {H : Nat → Int} (h : Strm w wr m k H) (hk : k < m) :
    Strm w ((wr.setCell ⟨w.heap.size, k, none⟩ (.pointer (some ⟨wr.heap.size, 0, none⟩))).alloc (.cells #[.int .i64 (H k), .nilFunc, .bool false] 32)) m (k + 1) H where
  bel := (h.bel.setCell (Nat.le_refl _) _).alloc (by simp [h.size]; omega) _
  size := by simp [h.size]; omega
  row := fun i hi => by
    obtain ⟨u, hu⟩ := h.cell hk
    have hlt : w.heap.size < wr.heap.size := by rw [h.size]; omega
    rw [World.cell?_alloc_lt _ _ _ (by simpa using hlt)]
    by_cases e : i = k
    · subst e; rw [World.cell?_setCell_same _ _ _ hu, h.size]
    · rw [World.cell?_setCell_other _ _ _ _ (by simp only [ne_eq, Addr.mk.injEq]; omega)]; exact h.row i (by omega)
  room := World.there_alloc (World.there_setCells h.room w.heap.size k [.pointer (some ⟨wr.heap.size, 0, none⟩)]) _
  obj := fun i hi => by
    by_cases e : i = k
    · subst e
      have := heap_alloc_new (wr.setCell ⟨w.heap.size, i, none⟩ (.pointer (some ⟨wr.heap.size, 0, none⟩))) (.cells #[.int .i64 (H i), .nilFunc, .bool false] 32)
      rw [World.size_setCell, h.size] at this
      rw [h.size, this]; rfl
    · rw [Below.heap_alloc _ _ _ (by simp [h.size]; omega), Below.heap_setCell _ _ _ _ (by show _ ≠ w.heap.size; omega)]
      exact h.obj i (by omega)

theorem cell_of_strm {w : World} {b : Nat} {h : Int} (hb : w.heap[b]? = some (strmObj h)) : w.cell? ⟨b, 0, none⟩ = some (.int .i64 h) ∧ w.cell? ⟨b, 1, none⟩ = some .nilFunc ∧ w.cell? ⟨b, 2, none⟩ = some (.bool false) := by
  refine ⟨?_, ?_, ?_⟩ <;> simp [World.cell?, hb, strmObj]

def budObj (limit room used : Int) (g m : Nat) : Obj := .cells #[.int .i64 limit, .int .i64 room, .int .i32 0, .int .u32 0, .int .i64 used, .slice none 0 0, .slice (some ⟨g, 0, none⟩) m m, .slice none 0 0] 44

/-- all that the law's tail reads: the world w3 has the streams, the budget at block B -/
structure Laid (w w3 : World) (m B : Nat) (H : Nat → Int) (limit room used : Int) : Prop where
  bel : Below w.heap.size w w3
  row : ∀ i, i < m → w3.cell? ⟨w.heap.size, i, none⟩ = some (.pointer (some ⟨w.heap.size + 1 + i, 0, none⟩))
  obj : ∀ i, i < m → w3.heap[w.heap.size + 1 + i]? = some (strmObj (H i))
  bud : w3.heap[B]? = some (budObj limit room used w.heap.size m)

theorem Laid.start {w wr : World} {m : Nat} {H : Nat → Int} (h : Strm w wr m m H) (limit room used : Int) : Laid w (wr.alloc (budObj limit room used w.heap.size m)) m wr.heap.size H limit room used where
  bel := h.bel.alloc (by rw [h.size]; omega) _
  row := fun i hi => by rw [World.cell?_alloc_lt _ _ _ (by show w.heap.size < _; rw [h.size]; omega)]; exact h.row i hi
  obj := fun i hi => by rw [Below.heap_alloc _ _ _ (by rw [h.size]; omega)]; exact h.obj i hi
  bud := heap_alloc_new _ _

theorem Laid.alloc {w w3 : World} {m B : Nat} {H : Nat → Int} {limit room used : Int} (h : Laid w w3 m B H limit room used) (hB : B < w3.heap.size) (hm : w.heap.size + 1 + m ≤ w3.heap.size) (o : Obj) : Laid w (w3.alloc o) m B H limit room used where
  bel := h.bel.alloc (by omega) _
  row := fun i hi => by rw [World.cell?_alloc_lt _ _ _ (by show w.heap.size < _; omega)]; exact h.row i hi
  obj := fun i hi => by rw [Below.heap_alloc _ _ _ (by omega)]; exact h.obj i hi
  bud := by rw [Below.heap_alloc _ _ _ hB]; exact h.bud

theorem Laid.drewN {w w3 : World} {m B : Nat} {H : Nat → Int} {limit room used : Int} (h : Laid w w3 m B H limit room used) (n : Nat) : Laid w (w3.drewN n) m B H limit room used where
  bel := below_drewN h.bel n
  row := fun i hi => by simpa using h.row i hi
  obj := fun i hi => h.obj i hi
  bud := h.bud

theorem Laid.budget {w w3 : World} {m B : Nat} {H : Nat → Int} {limit room used : Int} (h : Laid w w3 m B H limit room used) (hm : 0 < m) : Budget w3 B w.heap.size m limit room used (w.heap.size + 1 + 0) where
  c0 := by simp [World.cell?, h.bud, budObj]
  c1 := by simp [World.cell?, h.bud, budObj]
  c4 := by simp [World.cell?, h.bud, budObj]
  c6 := by simp [World.cell?, h.bud, budObj]
  p0 := h.row 0 hm
  pos := hm

theorem Laid.cells {w w3 : World} {m B : Nat} {H : Nat → Int} {limit room used : Int} (h : Laid w w3 m B H limit room used) :
    w3.cell? ⟨B, 0, none⟩ = some (.int .i64 limit) ∧ w3.cell? ⟨B, 1, none⟩ = some (.int .i64 room) ∧ w3.cell? ⟨B, 4, none⟩ = some (.int .i64 used) ∧ w3.cell? ⟨B, 5, none⟩ = some (.slice none 0 0) ∧
    w3.cell? ⟨B, 6, none⟩ = some (.slice (some ⟨w.heap.size, 0, none⟩) m m) ∧ w3.cell? ⟨B, 7, none⟩ = some (.slice none 0 0) := by
  refine ⟨?_, ?_, ?_, ?_, ?_, ?_⟩ <;> simp [World.cell?, h.bud, budObj]

end Go.Proofs.Ybulkdnus
