import Derived.Test.YbulkdnusCLocks
import Derived.StillTailTactics
import Derived.LaidEql
import Derived.Maps.RangeRun
namespace Go.Proofs.Ybulkdnus.C
open Go.RowKit
open Go.ChangeMaps (setBlock)
set_option linter.unusedVariables false
set_option maxRecDepth 100000

/-- what changes between two worlds: of the blocks that stood, only those of S -/
structure Chg (S : Nat → Prop) (w w' : World) : Prop where
  os : w'.os = w.os
  tape : w'.tape = w.tape
  output : w'.output = w.output
  size : w.heap.size ≤ w'.heap.size
  block : ∀ k, k < w.heap.size → ¬ S k → w'.heap[k]? = w.heap[k]?

theorem Chg.refl (S : Nat → Prop) (w : World) : Chg S w w := ⟨rfl, rfl, rfl, Nat.le_refl _, fun _ _ _ => rfl⟩
theorem Chg.trans {S : Nat → Prop} {w w' w'' : World} (h : Chg S w w') (h' : Chg S w' w'') : Chg S w w'' :=
  ⟨h'.os.trans h.os, h'.tape.trans h.tape, h'.output.trans h.output, Nat.le_trans h.size h'.size, fun k hk hs => (h'.block k (Nat.lt_of_lt_of_le hk h.size) hs).trans (h.block k hk hs)⟩
theorem Chg.mono {S T : Nat → Prop} {w w' : World} (h : Chg S w w') (hs : ∀ k, k < w.heap.size → S k → T k) : Chg T w w' :=
  ⟨h.os, h.tape, h.output, h.size, fun k hk ht => h.block k hk fun hsk => ht (hs k hk hsk)⟩
theorem Chg.alloc {S : Nat → Prop} {w w' : World} (h : Chg S w w') (o : Obj) : Chg S w (w'.alloc o) :=
  ⟨h.os, h.tape, h.output, by have := h.size; simp; omega, fun k hk hs => by rw [Below.heap_alloc _ _ _ (Nat.lt_of_lt_of_le hk h.size)]; exact h.block k hk hs⟩
theorem heap_setCell_other {w : World} {a : Addr} {v : Value} {k : Nat} (h : k ≠ a.block) : (w.setCell a v).heap[k]? = w.heap[k]? := by
  simp only [World.setCell, Array.getElem?_modify]
  rw [if_neg (fun e => h e.symm)]
theorem Chg.set {S : Nat → Prop} {w w' : World} (h : Chg S w w') (a : Addr) (v : Value) (ha : a.block < w.heap.size → S a.block) : Chg S w (w'.setCell a v) :=
  ⟨h.os, h.tape, h.output, by have := h.size; simpa using this, fun k hk hs => by
    rw [heap_setCell_other (fun e => hs (by subst e; exact ha hk))]; exact h.block k hk hs⟩
theorem Chg.setBlock {S : Nat → Prop} {w w' : World} (h : Chg S w w') (b : Nat) (o : Obj) (hb : b < w.heap.size → S b) : Chg S w (ChangeMaps.setBlock w' b o) :=
  ⟨h.os, h.tape, h.output, by have := h.size; simpa [ChangeMaps.setBlock] using this, fun k hk hs => by
    have hne : b ≠ k := fun e => hs (by subst e; exact hb hk)
    simp only [ChangeMaps.setBlock]
    rw [Array.getElem?_setIfInBounds_ne hne]; exact h.block k hk hs⟩
theorem Chg.drew {S : Nat → Prop} {w w' : World} (h : Chg S w w') : Chg S w w'.drew := ⟨h.os, h.tape, h.output, h.size, h.block⟩
theorem Chg.below {S : Nat → Prop} {w w' : World} (h : Chg S w w') {B : Nat} (hB : B ≤ w.heap.size) (hs : ∀ k, k < B → ¬ S k) : Below B w w' :=
  ⟨h.os, h.tape, h.output, h.size, fun k hk => h.block k (Nat.lt_of_lt_of_le hk hB) (hs k hk)⟩

theorem lt_of_heap {w : World} {b : Nat} {o : Obj} (h : w.heap[b]? = some o) : b < w.heap.size := by
  rcases Nat.lt_or_ge b w.heap.size with h' | h'
  · exact h'
  · rw [Array.getElem?_eq_none h'] at h; cases h
theorem setCell_heap_same {w : World} {b i : Nat} {cs : Array Value} {t : TypeId} {fr : Nat × Nat} (h : w.heap[b]? = some (.cells cs t fr)) (hi : i < cs.size) (u : Value) : (w.setCell ⟨b, i, none⟩ u).heap[b]? = some (.cells (cs.setIfInBounds i u) t fr) := by
  simp [World.setCell, Array.getElem?_modify, h]
theorem new_at (w : World) (o : Obj) {k : Nat} (h : k = w.heap.size) : (w.alloc o).heap[k]? = some o := by rw [h]; exact heap_alloc_new w o

/-- a listener or a connection -/
def item (t : TypeId) (n : Int) (fail : Bool) : Obj := .cells #[.int .i64 n, .bool fail] t (0, 0)
theorem item_cells {w : World} {b : Nat} {t : TypeId} {n : Int} {fail : Bool} (h : w.heap[b]? = some (item t n fail)) :
    w.cell? ⟨b, 0, none⟩ = some (.int .i64 n) ∧ w.cell? ⟨b, 1, none⟩ = some (.bool fail) ∧ w.frozen? ⟨b, 0, none⟩ = false := by
  refine ⟨?_, ?_, ?_⟩ <;> simp [World.cell?, World.frozen?, h, item]
theorem item_set {w : World} {b : Nat} {t : TypeId} {n : Int} {fail : Bool} (h : w.heap[b]? = some (item t n fail)) (m : Int) : (w.setCell ⟨b, 0, none⟩ (.int .i64 m)).heap[b]? = some (item t m fail) := by
  rw [setCell_heap_same h (by simp)]; rfl

/-- what a Close leaves -/
def Closed (w w' : World) (b : Nat) (t : TypeId) (fail : Bool) : Prop := Chg (· = b) w w' ∧ w'.heap[b]? = some (item t 1 fail)

set_option maxHeartbeats 2000000 in
theorem close_lis (b : Nat) (fail : Bool) (w : World) (h : w.heap[b]? = some (item 76 0 fail)) :
    Calls Yba.prog 64 #[.pointer (some ⟨b, 0, none⟩)] w fun e w' => (∃ v, e = .returned v) ∧ Closed w w' b 76 fail := by
  obtain ⟨c0, c1, f0⟩ := item_cells h
  have h1 := item_set h 1
  cases fail with
  | true =>
    have hnew : ∀ W : World, Calls Yba.prog 65 #[.string ⟨#[122, 122]⟩] W fun e w' => ∃ o, (∃ v, e = .returned v) ∧ w' = W.alloc o := fun W => by
      go_enter Yba.func65, Yba.ntmps65
      go_wp2
      go_ret
      exact ⟨_, ⟨_, rfl⟩, rfl⟩
    go_enter Yba.func64, Yba.ntmps64
    go_wp2_with (go_at_call 65; refine (hnew _).mono ?_; rintro e w' ⟨o, ⟨v, rfl⟩, rfl⟩)
    go_ret
    refine ⟨⟨_, rfl⟩, Chg.alloc (Chg.set (S := (· = b)) (Chg.refl _ _) _ _ (fun _ => rfl)) _, ?_⟩
    rw [Below.heap_alloc _ _ _ (by simpa using lt_of_heap h)]
    exact h1
  | false =>
    go_enter Yba.func64, Yba.ntmps64
    go_wp2
    go_ret
    exact ⟨⟨_, rfl⟩, Chg.set (S := (· = b)) (Chg.refl _ _) _ _ (fun _ => rfl), h1⟩

set_option maxHeartbeats 2000000 in
theorem close_con (b : Nat) (fail : Bool) (w : World) (h : w.heap[b]? = some (item 78 0 fail)) :
    Calls Yba.prog 66 #[.pointer (some ⟨b, 0, none⟩)] w fun e w' => (∃ v, e = .returned v) ∧ Closed w w' b 78 fail := by
  obtain ⟨c0, c1, f0⟩ := item_cells h
  have h1 := item_set h 1
  cases fail with
  | true =>
    have hnew : ∀ W : World, Calls Yba.prog 65 #[.string ⟨#[122, 122]⟩] W fun e w' => ∃ o, (∃ v, e = .returned v) ∧ w' = W.alloc o := fun W => by
      go_enter Yba.func65, Yba.ntmps65
      go_wp2
      go_ret
      exact ⟨_, ⟨_, rfl⟩, rfl⟩
    go_enter Yba.func66, Yba.ntmps66
    go_wp2_with (go_at_call 65; refine (hnew _).mono ?_; rintro e w' ⟨o, ⟨v, rfl⟩, rfl⟩)
    go_ret
    refine ⟨⟨_, rfl⟩, Chg.alloc (Chg.set (S := (· = b)) (Chg.refl _ _) _ _ (fun _ => rfl)) _, ?_⟩
    rw [Below.heap_alloc _ _ _ (by simpa using lt_of_heap h)]
    exact h1
  | false =>
    go_enter Yba.func66, Yba.ntmps66
    go_wp2
    go_ret
    exact ⟨⟨_, rfl⟩, Chg.set (S := (· = b)) (Chg.refl _ _) _ _ (fun _ => rfl), h1⟩
end Go.Proofs.Ybulkdnus.C
