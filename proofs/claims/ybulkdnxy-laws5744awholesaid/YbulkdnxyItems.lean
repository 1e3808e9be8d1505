import Derived.Test.YbulkdnxyKeys
namespace Go.Proofs.Ybulkdnxy
open Go.RowKit
set_option linter.unusedVariables false

theorem gb_trans {a b c : World} {row : Option Nat} (h : a.grownBy b row) (k : b.grownBy c row) : a.grownBy c row :=
  ⟨k.os.trans h.os, k.tape.trans h.tape, k.output.trans h.output, Nat.le_trans h.size k.size, fun n hn hr => (k.block n (Nat.lt_of_lt_of_le hn h.size) hr).trans (h.block n hn hr)⟩

theorem KeysOK.kept {w w' : World} {base lo nn b : Nat} {kv : Value} {d : Nd} (h : KeysOK w base lo nn kv d) (hg : w.grownBy w' (some b)) (hb : b < lo) : KeysOK w' base lo nn kv d := by
  rcases h with h | ⟨r, e1, e2, e3, e4⟩
  · exact .inl h
  · exact .inr ⟨r, e1, e2, Nat.lt_of_lt_of_le e3 hg.size, e4.kept (hg.block r e3 (by simp; omega))⟩

/-- behind the items' part -/
structure K3 (W1 wd : World) (g b nn : Nat) (x : Src) : Prop where
  gr : W1.grownBy wd (some b)
  dob : wd.heap[W1.heap.size]? = some (dObj x)
  node : ∃ kv iv, wd.heap[b]? = some (nodeObj kv iv none) ∧ KeysOK wd (g + 1) (g + 1 + nn) nn kv x.d ∧ ItemsOK wd (g + 1) (g + 1 + nn) nn iv x.d

/-- inside the items' loop: wc the world behind the keys' part; the items' row is block wc.heap.size -/
structure K4 (wc wq : World) (b g nn j : Nat) (x : Src) (kv : Value) : Prop where
  gr : wc.grownBy wq (some b)
  lt : wc.heap.size < wq.heap.size
  node : wq.heap[b]? = some (nodeObj kv (.slice (some ⟨wc.heap.size, 0, none⟩) x.d.ni x.d.ni) none)
  done : ∀ i, i < j → wq.cell? ⟨wc.heap.size, i, none⟩ = some (.pointer (ptrA (g + 1) (pickF (x.d.I i) nn)))
  todo : ∀ i, j ≤ i → i < x.d.ni → wq.cell? ⟨wc.heap.size, i, none⟩ = some (.pointer none)
  free : ∀ i, i < x.d.ni → wq.frozen? ⟨wc.heap.size, i, none⟩ = false

theorem K4.start {wc : World} {b g nn : Nat} {x : Src} {kv : Value} (hb : wc.heap[b]? = some (nodeObj kv (.slice none 0 0) none)) :
    K4 wc ((wc.setCell ⟨b, 6, none⟩ (.slice (some ⟨wc.heap.size, 0, none⟩) x.d.ni x.d.ni)).alloc (.cells (madeP x.d.ni) 25)) b g nn 0 x kv where
  gr := gb_alloc (gb_set (gb_refl _ _) _ (.inl rfl) _) _
  lt := by simp
  node := by
    have hlt := lt_of_heap hb
    rw [Below.heap_alloc _ _ _ (by simpa using hlt)]
    exact set_items hb _
  done := fun i hi => absurd hi (Nat.not_lt_zero _)
  todo := fun i _ hi => by
    have := new_at (wc.setCell ⟨b, 6, none⟩ (.slice (some ⟨wc.heap.size, 0, none⟩) x.d.ni x.d.ni)) (.cells (madeP x.d.ni) 25) (k := wc.heap.size) (by simp)
    rw [cell_of_row _ _ _ _ _ _ this]
    exact madeP_at hi
  free := fun i _ => by
    have := World.frozen?_alloc_new (wc.setCell ⟨b, 6, none⟩ (.slice (some ⟨wc.heap.size, 0, none⟩) x.d.ni x.d.ni)) (madeP x.d.ni) 25 i
    rwa [World.size_setCell] at this

theorem K4.skip {wc wq : World} {b g nn j : Nat} {x : Src} {kv : Value} (h : K4 wc wq b g nn j x kv) (hj : j < x.d.ni) (hp : pickF (x.d.I j) nn = none) : K4 wc wq b g nn (j + 1) x kv where
  gr := h.gr
  lt := h.lt
  node := h.node
  done := fun i hi => by
    by_cases e : i = j
    · subst e; rw [hp]; exact h.todo i (Nat.le_refl _) hj
    · exact h.done i (by omega)
  todo := fun i h1 h2 => h.todo i (by omega) h2
  free := h.free

theorem K4.put {wc wq : World} {b g nn j q : Nat} {x : Src} {kv : Value} (h : K4 wc wq b g nn j x kv) (hb : b < wc.heap.size) (hj : j < x.d.ni) (hp : pickF (x.d.I j) nn = some q) :
    K4 wc (wq.drew.setCell ⟨wc.heap.size, j, none⟩ (.pointer (some ⟨g + 1 + q, 0, none⟩))) b g nn (j + 1) x kv where
  gr := gb_set (gb_drew h.gr) _ (.inr (Nat.le_refl _)) _
  lt := by simpa using h.lt
  node := by rw [Below.heap_setCell _ _ _ _ (by show b ≠ wc.heap.size; omega)]; exact h.node
  done := fun i hi => by
    by_cases e : i = j
    · subst e
      rw [hp]
      have h0 : wq.drew.cell? ⟨wc.heap.size, i, none⟩ = some (.pointer none) := by simpa using h.todo i (Nat.le_refl _) hj
      exact World.cell?_setCell_same _ _ _ h0
    · rw [World.cell?_setCell_other _ _ _ _ (by simp only [ne_eq, Addr.mk.injEq]; omega)]
      simpa using h.done i (by omega)
  todo := fun i h1 h2 => by
    rw [World.cell?_setCell_other _ _ _ _ (by simp only [ne_eq, Addr.mk.injEq]; omega)]
    simpa using h.todo i (by omega) h2
  free := fun i hi => by rw [World.frozen?_setCell]; simpa using h.free i hi

theorem K3.empty {W1 wc : World} {g b nn : Nat} {x : Src} (h : K1 W1 wc g b nn x) (h0 : x.d.ni = 0) : K3 W1 wc g b nn x where
  gr := h.gr
  dob := h.dob
  node := by
    obtain ⟨kv, h1, h2⟩ := h.node
    exact ⟨kv, _, h1, h2, .inl ⟨h0, rfl⟩⟩

theorem K4.finish {W1 wc wq : World} {b g nn : Nat} {x : Src} {kv : Value} (h1 : K1 W1 wc g b nn x) (hk : KeysOK wc (g + 1) (g + 1 + nn) nn kv x.d) (h : K4 wc wq b g nn x.d.ni x kv) (hb : b < g + 1 + nn) (hs : g + 1 + nn ≤ W1.heap.size) : K3 W1 wq g b nn x where
  gr := gb_trans h1.gr h.gr
  dob := by rw [h.gr.block W1.heap.size (lt_of_heap h1.dob) (by simp; omega)]; exact h1.dob
  node := ⟨kv, _, h.node, hk.kept h.gr hb, .inr ⟨wc.heap.size, rfl, Nat.le_trans hs h1.gr.size, h.lt, h.done⟩⟩

theorem ItemsOK.kept {w w' : World} {base lo nn b : Nat} {iv : Value} {d : Nd} (h : ItemsOK w base lo nn iv d) (hg : w.grownBy w' (some b)) (hb : b < lo) : ItemsOK w' base lo nn iv d := by
  rcases h with h | ⟨r, e1, e2, e3, e4⟩
  · exact .inl h
  · exact .inr ⟨r, e1, e2, Nat.lt_of_lt_of_le e3 hg.size, fun j hj => (World.cell?_of_block (hg.block r e3 (by simp; omega))).trans (e4 j hj)⟩

/-- the round's end: no front matter -/
theorem K3.endNone {W1 wd : World} {g b nn : Nat} {x : Src} (h : K3 W1 wd g b nn x) (hp : pickF x.d.fm nn = none) : NodeOK wd (g + 1) (g + 1 + nn) nn b x.d := by
  obtain ⟨kv, iv, h1, h2, h3⟩ := h.node
  refine ⟨kv, iv, ?_, h2, h3⟩
  rw [hp]; exact h1

/-- the round's end: the front matter stored -/
theorem K3.endSome {W1 wd : World} {g b nn q : Nat} {x : Src} (h : K3 W1 wd g b nn x) (hb : b < g + 1 + nn) (hp : pickF x.d.fm nn = some q) :
    NodeOK (wd.setCell ⟨b, 7, none⟩ (.pointer (some ⟨g + 1 + q, 0, none⟩))) (g + 1) (g + 1 + nn) nn b x.d := by
  obtain ⟨kv, iv, h1, h2, h3⟩ := h.node
  have hg : wd.grownBy (wd.setCell ⟨b, 7, none⟩ (.pointer (some ⟨g + 1 + q, 0, none⟩))) (some b) := gb_set (gb_refl _ _) _ (.inl rfl) _
  refine ⟨kv, iv, ?_, h2.kept hg hb, h3.kept hg hb⟩
  rw [hp]; exact set_fm h1 _

end Go.Proofs.Ybulkdnxy
