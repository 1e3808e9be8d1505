import Derived.Test.YbulkdnxyItems
namespace Go.Proofs.Ybulkdnxy
open Go.RowKit
set_option linter.unusedVariables false

def curI : Option Nat → Int
  | none => -1
  | some r => r

theorem pick_cur (v : Int) (nn : Nat) : pickI v nn = curI (pickF v nn) := by
  have h : pickI v nn = -1 ∨ 0 ≤ pickI v nn := by
    unfold pickI
    split
    · exact .inl rfl
    · exact .inr (Int.emod_nonneg _ (by omega))
  unfold pickF
  split
  · show pickI v nn = -1; omega
  · show pickI v nn = ((pickI v nn).toNat : Int); omega

theorem curI_bd (o : Option Nat) (nn : Nat) (h : ∀ r, o = some r → r < nn) : -1 ≤ curI o ∧ curI o < nn := by
  cases o with
  | none => simp [curI]; omega
  | some r => have := h r rfl; simp [curI]; omega

theorem info43 : (Yba.prog.info? 43).map (fun i => (i.zero, i.size, i.bytes)) = some (some .nilIface, 1, 16) := by kernel_rfl

def madeI (n : Nat) : Array Value := madeCells #[.nilIface] n

theorem run_mkI (n : Nat) (hn : n ≤ 4096) (w : World) : (Instr.makeSlice 38 (.int .i64 n) (.int .i64 n)).run Yba.prog w = .ok (.slice (some ⟨w.heap.size, 0, none⟩) n n) (w.alloc (.cells (madeI n) 43)) := by
  obtain ⟨i, hi, hz0, hz1, hz2⟩ := info_parts info43
  have := run_make (P := Yba.prog) w 38 43 i .nilIface Yba.underlying38 hi hz0 .i64 .i64 n n (by omega) (by omega) (by rw [hz2]; omega) (by omega)
  rw [this, hz1]; simp [madeI, Value.cells]

def sObj (s : Sg) : Obj := .cells #[.int .u8 s.kind, .string s.K, .int .i64 s.I] 40 (0, 0)

theorem s_cells {w : World} {b : Nat} {s : Sg} (h : w.heap[b]? = some (sObj s)) :
    w.cell? ⟨b, 0, none⟩ = some (.int .u8 s.kind) ∧ w.cell? ⟨b, 1, none⟩ = some (.string s.K) ∧ w.cell? ⟨b, 2, none⟩ = some (.int .i64 s.I) := by
  refine ⟨?_, ?_, ?_⟩ <;> simp [World.cell?, h, sObj]

/-- the path while it is made: W the world before, its row is block W.heap.size -/
structure C5 (W wq : World) (pl j : Nat) (S : Nat → Sg) : Prop where
  bel : Below W.heap.size W wq
  lt : W.heap.size < wq.heap.size
  done : ∀ i, i < j → wq.cell? ⟨W.heap.size, i, none⟩ = some (segV (S i))
  room : wq.there W.heap.size 0 pl

theorem C5.start (W : World) (pl : Nat) (S : Nat → Sg) : C5 W (W.alloc (.cells (madeI pl) 43)) pl 0 S where
  bel := (Below.refl _ _).alloc (Nat.le_refl _) _
  lt := by simp
  done := fun i hi => absurd hi (Nat.not_lt_zero _)
  room := fun j hj => by
    refine ⟨?_, World.frozen?_alloc_new W _ _ _⟩
    rw [World.cell?, heap_alloc_new]
    have : (0 + j) < (madeI pl).size := by rw [madeI, size_madeCells]; omega
    show ((madeI pl)[0 + j]?).isSome = true
    rw [Array.getElem?_eq_getElem this]; rfl

theorem C5.cell {W wq : World} {pl j : Nat} {S : Nat → Sg} (h : C5 W wq pl j S) (hj : j < pl) : ∃ u, wq.cell? ⟨W.heap.size, j, none⟩ = some u := by
  have := (h.room j hj).1
  rw [Nat.zero_add] at this
  exact Option.isSome_iff_exists.1 this
theorem C5.free {W wq : World} {pl j : Nat} {S : Nat → Sg} (h : C5 W wq pl j S) (hj : j < pl) : wq.frozen? ⟨W.heap.size, j, none⟩ = false := by
  have := (h.room j hj).2
  rwa [Nat.zero_add] at this

theorem C5.step {W wq : World} {pl j : Nat} {S : Nat → Sg} (h : C5 W wq pl j S) (hj : j < pl) (v : Value) (hv : v = segV (S j)) (o : Obj) :
    C5 W ((wq.setCell ⟨W.heap.size, j, none⟩ v).alloc o) pl (j + 1) S where
  bel := (h.bel.setCell (Nat.le_refl _) _).alloc (by have := h.lt; simp; omega) _
  lt := by have := h.lt; simp; omega
  done := fun i hi => by
    obtain ⟨u, hu⟩ := h.cell hj
    rw [World.cell?_alloc_lt _ _ _ (by simpa using h.lt)]
    by_cases e : i = j
    · subst e; rw [World.cell?_setCell_same _ _ _ hu, hv]
    · rw [World.cell?_setCell_other _ _ _ _ (by simp only [ne_eq, Addr.mk.injEq]; omega)]; exact h.done i (by omega)
  room := World.there_alloc (World.there_setCells h.room W.heap.size j [v]) _

theorem ready_of {w W wq : World} {nn pl : Nat} {N : Nat → Nd} {S : Nat → Sg} (hB : B2 w W nn nn N) (h : C5 W wq pl pl S) :
    Ready wq (w.heap.size + 1) (w.heap.size + 1 + nn) nn W.heap.size pl N S where
  nodes := fun r hr => (hB.done r hr).below h.bel
  segs := h.done
  pbl := h.lt

theorem eql25_same (a : Addr) (w : World) : (binOp .eql 25 (.pointer (some a)) (.pointer (some a))).run Yba.prog w = .ok (.bool true) w := by
  have h31 : (Yba.prog.info? 31).map (·.size) = some 8 := by kernel_rfl
  cases hi : Yba.prog.info? 31 with
  | none => rw [hi] at h31; cases h31
  | some i =>
    have h : ∀ d : Nat, (Op.equalIn (d + 1) 25 (.pointer (some a)) (.pointer (some a))).run Yba.prog w = .ok true w := fun d => by
      simp [Op.equalIn, run_underlying Yba.underlying25, sizeOf, typeInfo, hi, sameAddr]
    simp only [binOp]
    simp [Op.equal, Op.maxDepth, h 9999]

theorem kind3 (k : Int) (h0 : 0 ≤ k) : (k % 3 = 0) ∨ (k % 3 = 1) ∨ (k % 3 = 2) := by omega

end Go.Proofs.Ybulkdnxy
