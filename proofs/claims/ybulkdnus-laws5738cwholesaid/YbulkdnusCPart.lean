import Derived.Test.YbulkdnusCCancel
import Derived.Carry
import Derived.OwnWalk
namespace Go.Proofs.Ybulkdnus.C
open Go.RowKit
open Go.ChangeMaps (setBlock)
set_option linter.unusedVariables false
set_option maxRecDepth 100000

theorem info74 : (Yba.prog.info? 74).map (fun i => (i.zero, i.size, i.bytes)) = some (some (.pointer none), 1, 8) := by kernel_rfl
theorem info77 : (Yba.prog.info? 77).map (fun i => (i.zero, i.size, i.bytes)) = some (some (.pointer none), 1, 8) := by kernel_rfl

def madeP (n : Nat) : Array Value := madeCells #[.pointer none] n

theorem run_mkL (n : Nat) (hn : n ≤ 65535) (w : World) : (Instr.makeSlice 49 (.int .i64 n) (.int .i64 n)).run Yba.prog w = .ok (.slice (some ⟨w.heap.size, 0, none⟩) n n) (w.alloc (.cells (madeP n) 74)) := by
  obtain ⟨i, hi, hz0, hz1, hz2⟩ := info_parts info74
  have := run_make (P := Yba.prog) w 49 74 i (.pointer none) Yba.underlying49 hi hz0 .i64 .i64 n n (by omega) (by omega) (by rw [hz2]; omega) (by omega)
  rw [this, hz1]; simp [madeP, Value.cells]
theorem run_mkC (n : Nat) (hn : n ≤ 65535) (w : World) : (Instr.makeSlice 50 (.int .i64 n) (.int .i64 n)).run Yba.prog w = .ok (.slice (some ⟨w.heap.size, 0, none⟩) n n) (w.alloc (.cells (madeP n) 77)) := by
  obtain ⟨i, hi, hz0, hz1, hz2⟩ := info_parts info77
  have := run_make (P := Yba.prog) w 50 77 i (.pointer none) Yba.underlying50 hi hz0 .i64 .i64 n n (by omega) (by omega) (by rw [hz2]; omega) (by omega)
  rw [this, hz1]; simp [madeP, Value.cells]
theorem madeP_at {n i : Nat} (h : i < n) : (madeP n)[i]? = some (.pointer none) := by
  have h1 : (madeP n).toList = List.replicate n (.pointer none) := toList_madeCells_one _ n
  have : (madeP n)[i]? = (madeP n).toList[i]? := by simp
  rw [this, h1]; simp [h]
theorem room_new (w : World) (n : Nat) (t : TypeId) : (w.alloc (.cells (madeP n) t)).there w.heap.size 0 n := fun j hj => by
  refine ⟨?_, World.frozen?_alloc_new w _ _ _⟩
  rw [World.cell?, heap_alloc_new]
  show ((madeP n)[0 + j]?).isSome = true
  rw [Nat.zero_add, madeP_at hj]; rfl

theorem heap_setBlock_same {w : World} {b : Nat} (o : Obj) (h : b < w.heap.size) : (setBlock w b o).heap[b]? = some o := by
  simp [setBlock, h]
theorem heap_setBlock_other {w : World} {b k : Nat} (o : Obj) (h : k ≠ b) : (setBlock w b o).heap[k]? = w.heap[k]? := by
  simp [setBlock, Array.getElem?_setIfInBounds_ne (Ne.symm h)]

/-- a row of listeners or connections and its map, while they are made: i of n are in -/
structure Part (w : World) (tp te : TypeId) (M S n i : Nat) (fail : Bool) : Prop where
  map : w.heap[M]? = some (.map (ents tp (S + 1) i) i)
  row : ∀ j, j < i → w.cell? ⟨S, j, none⟩ = some (ptr (S + 1 + j))
  obj : ∀ j, j < i → w.heap[S + 1 + j]? = some (item te 0 fail)
  room : w.there S 0 n

theorem Part.start {w : World} {tp te : TypeId} {M n : Nat} {fail : Bool} (hm : w.heap[M]? = some (.map #[] 0)) (t : TypeId) : Part (w.alloc (.cells (madeP n) t)) tp te M w.heap.size n 0 fail where
  map := by rw [Below.heap_alloc _ _ _ (lt_of_heap hm)]; exact hm
  row := fun j hj => absurd hj (Nat.not_lt_zero _)
  obj := fun j hj => absurd hj (Nat.not_lt_zero _)
  room := room_new w n t

theorem Part.cell {w : World} {tp te : TypeId} {M S n i : Nat} {fail : Bool} (h : Part w tp te M S n i fail) {k : Nat} (hk : k < n) : ∃ u, w.cell? ⟨S, k, none⟩ = some u := by
  have := (h.room k hk).1
  rw [Nat.zero_add] at this
  exact Option.isSome_iff_exists.1 this
theorem Part.free {w : World} {tp te : TypeId} {M S n i : Nat} {fail : Bool} (h : Part w tp te M S n i fail) {k : Nat} (hk : k < n) : w.frozen? ⟨S, k, none⟩ = false := by
  have := (h.room k hk).2
  rwa [Nat.zero_add] at this

/-- the world after the new object is in the slice -/
def mid (w : World) (te : TypeId) (S i : Nat) (fail : Bool) : World := (w.setCell ⟨S, i, none⟩ (.pointer (some ⟨w.heap.size, 0, none⟩))).alloc (item te 0 fail)

/-- half of a round -/
structure Half (w : World) (tp te : TypeId) (M S n i : Nat) (fail : Bool) : Prop where
  map : w.heap[M]? = some (.map (ents tp (S + 1) i) i)
  row : ∀ j, j < i + 1 → w.cell? ⟨S, j, none⟩ = some (ptr (S + 1 + j))
  obj : ∀ j, j < i + 1 → w.heap[S + 1 + j]? = some (item te 0 fail)
  room : w.there S 0 n

theorem Part.half {w : World} {tp te : TypeId} {M S n i : Nat} {fail : Bool} (h : Part w tp te M S n i fail) (hs : w.heap.size = S + 1 + i) (hi : i < n) (hM : M < S) : Half (mid w te S i fail) tp te M S n i fail where
  map := by
    rw [mid, Below.heap_alloc _ _ _ (by simp [hs]; omega), heap_setCell_other (by show M ≠ S; omega)]; exact h.map
  row := fun j hj => by
    obtain ⟨u, hu⟩ := h.cell hi
    rw [mid, World.cell?_alloc_lt _ _ _ (by simp [hs]; omega)]
    by_cases e : j = i
    · subst e; rw [World.cell?_setCell_same _ _ _ hu, hs]; rfl
    · rw [World.cell?_setCell_other _ _ _ _ (by simp only [ne_eq, Addr.mk.injEq]; omega)]; exact h.row j (by omega)
  obj := fun j hj => by
    by_cases e : j = i
    · subst e; exact new_at _ _ (by simp [hs])
    · rw [mid, Below.heap_alloc _ _ _ (by simp [hs]; omega), heap_setCell_other (by show _ ≠ S; omega)]
      exact h.obj j (by omega)
  room := World.there_alloc (World.there_setCells h.room S i [.pointer (some ⟨w.heap.size, 0, none⟩)]) _

theorem mid_size (w : World) (te : TypeId) (S i : Nat) (fail : Bool) : (mid w te S i fail).heap.size = w.heap.size + 1 := by simp [mid]
theorem mid_block (w : World) (te : TypeId) (S i : Nat) (fail : Bool) (k : Nat) (hk : k < w.heap.size) (hS : k ≠ S) : (mid w te S i fail).heap[k]? = w.heap[k]? := by
  rw [mid, Below.heap_alloc _ _ _ (by simpa using hk), heap_setCell_other hS]
theorem mid_below {B : Nat} {w w' : World} (h : Below B w w') (te : TypeId) {S : Nat} (hS : B ≤ S) (hB : B ≤ w'.heap.size) (i : Nat) (fail : Bool) : Below B w (mid w' te S i fail) := (h.setCell hS _).alloc (by simpa using hB) _

theorem Half.drew {w : World} {tp te : TypeId} {M S n i : Nat} {fail : Bool} (h : Half w tp te M S n i fail) : Half w.drew tp te M S n i fail := ⟨h.map, h.row, h.obj, h.room⟩
theorem Half.step {w : World} {tp te : TypeId} {M S n i : Nat} {fail : Bool} (h : Half w tp te M S n i fail) (hM : M < S) : Part (setBlock w M (.map (ents tp (S + 1) (i + 1)) (i + 1))) tp te M S n (i + 1) fail where
  map := heap_setBlock_same _ (lt_of_heap h.map)
  row := fun j hj => (World.cell?_of_block (heap_setBlock_other _ (by show S ≠ M; omega))).trans (h.row j hj)
  obj := fun j hj => (heap_setBlock_other _ (by omega)).trans (h.obj j hj)
  room := fun j hj => by
    rw [World.cell?_of_block (heap_setBlock_other _ (by show S ≠ M; omega)), World.frozen?_of_block (heap_setBlock_other _ (by show S ≠ M; omega))]
    exact h.room j hj
theorem Half.put {w : World} {mt ti tp te : TypeId} {M S n i : Nat} {fail : Bool} (T : Ties mt ti tp te) (h : Half w tp te M S n i fail) :
    (Instr.mapUpdate mt (.map (some M)) (.iface tp (.pointer (some ⟨S + 1 + i, 0, none⟩))) (.bool true)).run Yba.prog w = .ok () (setBlock w M (.map (ents tp (S + 1) (i + 1)) (i + 1))) :=
  Go.Proofs.Ybulkdnus.C.put T h.map fun j hj => ⟨_, _, h.obj j (by omega)⟩

/-- the acceptor -/
def canV (hc : Bool) (cb : Nat) : Value := if hc then .func (.func 14) #[] #[.pointer (some ⟨cb, 0, none⟩)] else .nilFunc
def acc (st : Int) (cl : Bool) (can : Value) (lm cm : Option Nat) : Obj := .cells #[.int .i32 st, .int .u32 0, .bool cl, .nilIface, can, .map lm, .map cm, .int .u64 0, .int .u32 0] 70 (0, 0)

/-- what stands of a row and its map when it is whole -/
structure Rows (w : World) (tp te : TypeId) (m : Option Nat) (S n : Nat) (t : Int) (fail : Bool) : Prop where
  row : ∀ j, j < n → w.cell? ⟨S, j, none⟩ = some (ptr (S + 1 + j))
  obj : ∀ j, j < n → w.heap[S + 1 + j]? = some (item te t fail)
  map : ∀ M, m = some M → w.heap[M]? = some (.map (ents tp (S + 1) n) n)

theorem Part.rows {w : World} {tp te : TypeId} {M S n : Nat} {fail : Bool} (h : Part w tp te M S n n fail) : Rows w tp te (some M) S n 0 fail := ⟨h.row, h.obj, fun M' e => by cases e; exact h.map⟩
theorem Rows.kept {w w' : World} {tp te : TypeId} {m : Option Nat} {S n : Nat} {t : Int} {fail : Bool} (h : Rows w tp te m S n t fail) (hk : ∀ k, (S ≤ k ∧ k ≤ S + n) ∨ m = some k → w'.heap[k]? = w.heap[k]?) : Rows w' tp te m S n t fail where
  row := fun j hj => (World.cell?_of_block (hk S (.inl ⟨by omega, by omega⟩))).trans (h.row j hj)
  obj := fun j hj => (hk _ (.inl ⟨by omega, by omega⟩)).trans (h.obj j hj)
  map := fun M e => (hk M (.inr e)).trans (h.map M e)
end Go.Proofs.Ybulkdnus.C
