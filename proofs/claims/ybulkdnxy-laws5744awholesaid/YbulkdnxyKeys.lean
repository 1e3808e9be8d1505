import Derived.Test.YbulkdnxyIn
namespace Go.Proofs.Ybulkdnxy
open Go.RowKit
set_option linter.unusedVariables false

def dObj (x : Src) : Obj := .cells #[.slice x.ka x.d.nk x.kc, .slice x.da x.d.nd x.dc, .slice x.ia x.d.ni x.ic, .int .i64 x.d.fm] 35 (0, 0)

/-- behind the keys' part of a round: W1 the round's first world, b the node's block, g the table's -/
structure K1 (W1 wc : World) (g b nn : Nat) (x : Src) : Prop where
  gr : W1.grownBy wc (some b)
  dob : wc.heap[W1.heap.size]? = some (dObj x)
  node : ∃ kv, wc.heap[b]? = some (nodeObj kv (.slice none 0 0) none) ∧ KeysOK wc (g + 1) (g + 1 + nn) nn kv x.d

/-- inside the keys' loop: j keys are in the map at block W1.heap.size + 1 -/
structure K2 (W1 wq : World) (b g nn j : Nat) (x : Src) : Prop where
  gr : W1.grownBy wq (some b)
  dob : wq.heap[W1.heap.size]? = some (dObj x)
  node : wq.heap[b]? = some (nodeObj (.map (some (W1.heap.size + 1))) (.slice none 0 0) none)
  map : MapIs wq (W1.heap.size + 1) (fun k => (keyF x.d nn j k).map fun o => .pointer (ptrA (g + 1) o))

theorem lt_of_heap {w : World} {b : Nat} {o : Obj} (h : w.heap[b]? = some o) : b < w.heap.size := by
  rcases Nat.lt_or_ge b w.heap.size with h' | h'
  · exact h'
  · rw [Array.getElem?_eq_none h'] at h; cases h

theorem d_cells {w : World} {b : Nat} {x : Src} (h : w.heap[b]? = some (dObj x)) :
    w.cell? ⟨b, 0, none⟩ = some (.slice x.ka x.d.nk x.kc) ∧ w.cell? ⟨b, 1, none⟩ = some (.slice x.da x.d.nd x.dc) ∧ w.cell? ⟨b, 2, none⟩ = some (.slice x.ia x.d.ni x.ic) ∧ w.cell? ⟨b, 3, none⟩ = some (.int .i64 x.d.fm) := by
  refine ⟨?_, ?_, ?_, ?_⟩ <;> simp [World.cell?, h, dObj]

theorem node_free {w : World} {b : Nat} {kv iv : Value} {fv : Option Addr} (h : w.heap[b]? = some (nodeObj kv iv fv)) (i : Nat) : w.frozen? ⟨b, i, none⟩ = false := by
  simp [World.frozen?, h, nodeObj]

theorem setCell_heap_same {w : World} {b i : Nat} {cs : Array Value} {t : TypeId} {fr : Nat × Nat} (h : w.heap[b]? = some (.cells cs t fr)) (hi : i < cs.size) (u : Value) : (w.setCell ⟨b, i, none⟩ u).heap[b]? = some (.cells (cs.setIfInBounds i u) t fr) := by
  simp [World.setCell, Array.getElem?_modify, h]

theorem set_keys {w : World} {b : Nat} {kv iv : Value} {fv : Option Addr} (h : w.heap[b]? = some (nodeObj kv iv fv)) (u : Value) : (w.setCell ⟨b, 5, none⟩ u).heap[b]? = some (nodeObj u iv fv) := by
  rw [setCell_heap_same h (by simp)]; rfl
theorem set_items {w : World} {b : Nat} {kv iv : Value} {fv : Option Addr} (h : w.heap[b]? = some (nodeObj kv iv fv)) (u : Value) : (w.setCell ⟨b, 6, none⟩ u).heap[b]? = some (nodeObj kv u fv) := by
  rw [setCell_heap_same h (by simp)]; rfl
theorem set_fm {w : World} {b : Nat} {kv iv : Value} {fv : Option Addr} (h : w.heap[b]? = some (nodeObj kv iv fv)) (u : Option Addr) : (w.setCell ⟨b, 7, none⟩ (.pointer u)).heap[b]? = some (nodeObj kv iv u) := by
  rw [setCell_heap_same h (by simp)]; rfl

theorem new_at (w : World) (o : Obj) {k : Nat} (h : k = w.heap.size) : (w.alloc o).heap[k]? = some o := by rw [h]; exact heap_alloc_new w o

theorem K1.empty {W1 : World} {g b nn : Nat} {x : Src} (hb : W1.heap[b]? = some (nodeObj (.map none) (.slice none 0 0) none)) (h0 : x.d.nk = 0) : K1 W1 (W1.alloc (dObj x)) g b nn x where
  gr := gb_alloc (gb_refl _ _) _
  dob := heap_alloc_new _ _
  node := ⟨.map none, by rw [Below.heap_alloc _ _ _ (lt_of_heap hb)]; exact hb, .inl ⟨h0, rfl⟩⟩

theorem K2.start {W1 : World} {b g nn : Nat} {x : Src} (hb : W1.heap[b]? = some (nodeObj (.map none) (.slice none 0 0) none)) :
    K2 W1 (((W1.setCell ⟨b, 5, none⟩ (.map (some (W1.heap.size + 1)))).alloc (dObj x)).alloc (.map #[] 0)) b g nn 0 x where
  gr := gb_alloc (gb_alloc (gb_set (gb_refl _ _) _ (.inl rfl) _) _) _
  dob := by rw [Below.heap_alloc _ _ _ (by simp)]; exact new_at _ _ (by simp)
  node := by
    have hlt := lt_of_heap hb
    rw [Below.heap_alloc _ _ _ (by simp; omega), Below.heap_alloc _ _ _ (by simpa using hlt)]
    exact set_keys hb _
  map := ⟨#[], 0, new_at _ _ (by simp), fun e he => by simp at he, fun k => by simp [look_nil, keyF]⟩

theorem K2.step {W1 wq : World} {b g nn j : Nat} {x : Src} (h : K2 W1 wq b g nn j x) (hb : b < W1.heap.size) {o : Obj}
    (hm : MapIs (putB wq (W1.heap.size + 1) o) (W1.heap.size + 1) (fun k' => if k' = x.d.K j then some (.pointer (ptrA (g + 1) (kidF x.d nn j))) else (keyF x.d nn j k').map fun o => .pointer (ptrA (g + 1) o))) :
    K2 W1 (putB wq (W1.heap.size + 1) o) b g nn (j + 1) x where
  gr := gb_putB h.gr (by omega) _
  dob := by
    show (wq.heap.setIfInBounds _ _)[_]? = _
    rw [Array.getElem?_setIfInBounds_ne (by omega)]; exact h.dob
  node := by
    show (wq.heap.setIfInBounds _ _)[_]? = _
    rw [Array.getElem?_setIfInBounds_ne (by omega)]; exact h.node
  map := by
    obtain ⟨es, c, h1, h2, h3⟩ := hm
    refine ⟨es, c, h1, h2, fun k => ?_⟩
    rw [h3 k]
    simp only [keyF]
    split <;> simp

theorem K2.finish {W1 wq : World} {b g nn : Nat} {x : Src} (h : K2 W1 wq b g nn x.d.nk x) (hs : g + 1 + nn ≤ W1.heap.size) : K1 W1 wq g b nn x where
  gr := h.gr
  dob := h.dob
  node := ⟨_, h.node, .inr ⟨W1.heap.size + 1, rfl, by omega, by obtain ⟨es, c, h1, _⟩ := h.map; exact lt_of_heap h1, h.map⟩⟩

/-- an old cell in a later world of the round -/
theorem gr_cell {W1 wq : World} {b : Nat} (h : W1.grownBy wq (some b)) {p : Addr} (hp : p.block < W1.heap.size) (hne : p.block ≠ b) : wq.cell? p = W1.cell? p :=
  World.cell?_of_block (h.block p.block hp (by simp; exact hne))

end Go.Proofs.Ybulkdnxy
