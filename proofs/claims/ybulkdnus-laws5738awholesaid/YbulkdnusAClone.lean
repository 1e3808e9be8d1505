import Derived.Test.YbulkdnusASize
import Derived.Deep.AppendLies
namespace Go.Proofs.Ybulkdnus
open Go.RowKit

theorem info5 : (Yba.prog.info? 5).map (fun i => (i.zero, i.size, i.bytes)) = some (some (.int .u8 0), 1, 1) := by kernel_rfl
theorem info23 : (Yba.prog.info? 23).map (fun i => (i.zero, i.size, i.bytes)) = some (some (.slice none 0 0), 1, 24) := by kernel_rfl

theorem owns_new (w : World) : (w.alloc (.cells #[] 5)).ownsRow w.heap.size 5 1 (.slice (some ⟨w.heap.size, 0, none⟩) 0 0) 0 [] :=
  ⟨rfl, .inr ⟨w.heap.size, 0, #[], rfl, Nat.le_refl _, heap_alloc_new _ _, Nat.le_refl _, Nat.zero_le _, rfl, rfl⟩⟩

/-- what a clone is: a row of the call's own -/
structure Cloned (w w' : World) (g n : Nat) (Z : Nat → Int) : Prop where
  lo : w.heap.size ≤ g
  hi : g < w'.heap.size
  cell : ∀ i, i < n → w'.cell? ⟨g, i, none⟩ = some (.int .u8 (Z i))
  bel : Below w.heap.size w w'

theorem cloned_of {w w' : World} {g n cap : Nat} {Z : Nat → Int} (h : w'.ownsRow w.heap.size 5 1 (.slice (some ⟨g, 0, none⟩) n cap) n ((List.range n).map fun i => .int .u8 (Z i)))
    (hg : (w.alloc (.cells #[] 5)).grownBy w' (some w.heap.size)) (hlt : g < w'.heap.size) : Cloned w w' g n Z := by
  have hc := fun i (hi : i < n) => h.cellAt i (by omega)
  rcases h.2 with ⟨h0, _⟩ | ⟨g', cap', cur, h', hb, _, h1, h2, _⟩
  · simp at h0
  · simp only [Value.slice.injEq, Option.some.injEq, Addr.mk.injEq, and_true, true_and] at h'
    obtain ⟨rfl, rfl⟩ := h'
    refine ⟨hb, hlt, fun i hi => by rw [hc i hi]; simp [hi], ?_⟩
    refine ((Below.refl _ _).alloc (Nat.le_refl _) _).grown hg (by simp) (fun k hk => ?_)
    simp at hk; omega

def madeS (n : Nat) : Array Value := madeCells #[.slice none 0 0] n

theorem run_mkS (n : Nat) (hn : n ≤ 1048576) (w : World) : (Instr.makeSlice 22 (.int .i64 n) (.int .i64 n)).run Yba.prog w = .ok (.slice (some ⟨w.heap.size, 0, none⟩) n n) (w.alloc (.cells (madeS n) 23)) := by
  obtain ⟨i, hi, hz0, hz1, hz2⟩ := info_parts info23
  have := run_make (P := Yba.prog) w 22 23 i (.slice none 0 0) Yba.underlying22 hi hz0 .i64 .i64 n n (by omega) (by omega) (by rw [hz2]; omega) (by omega)
  rw [this, hz1]; simp [madeS, Value.cells]

theorem madeS_at {n i : Nat} (h : i < n) : (madeS n)[i]? = some (.slice none 0 0) := by
  have h1 : (madeS n).toList = List.replicate n (.slice none 0 0) := toList_madeCells_one _ n
  have : (madeS n)[i]? = (madeS n).toList[i]? := by simp
  rw [this, h1]; simp [h]

/-- v is a copy of the piece (A, L, Z): nil for nil, else a row of its own above block lo -/
def Copy (w : World) (lo : Nat) (v : Value) (A : Option Addr) (L : Nat) (Z : Nat → Int) : Prop :=
  (A = none ∧ v = .slice none 0 0) ∨ (A.isNone = false ∧ ∃ g c, v = .slice (some ⟨g, 0, none⟩) L c ∧ lo < g ∧ g < w.heap.size ∧ ∀ j, j < L → w.cell? ⟨g, j, none⟩ = some (.int .u8 (Z j)))

theorem Copy.later {w w' : World} {lo : Nat} {v : Value} {A : Option Addr} {L : Nat} {Z : Nat → Int} (h : Copy w lo v A L Z) (hb : Below w.heap.size w w') : Copy w' lo v A L Z := by
  rcases h with h | ⟨h1, g, c, h2, h3, h4, h5⟩
  · exact .inl h
  · exact .inr ⟨h1, g, c, h2, h3, Nat.lt_of_lt_of_le h4 hb.size, fun j hj => (hb.cell (p := ⟨g, j, none⟩) h4).trans (h5 j hj)⟩

theorem Copy.set {w : World} {lo : Nat} {v : Value} {A : Option Addr} {L : Nat} {Z : Nat → Int} (h : Copy w lo v A L Z) (k : Nat) (u : Value) : Copy (w.setCell ⟨lo, k, none⟩ u) lo v A L Z := by
  rcases h with h | ⟨h1, g, c, h2, h3, h4, h5⟩
  · exact .inl h
  · exact .inr ⟨h1, g, c, h2, h3, by simpa using h4, fun j hj => by rw [World.cell?_setCell_other _ _ _ _ (by simp only [ne_eq, Addr.mk.injEq]; omega)]; exact h5 j hj⟩

/-- the deep copy while it is made: g = w.heap.size is its row -/
structure Cp (w wr : World) (m k : Nat) (A : Nat → Option Addr) (L : Nat → Nat) (Z : Nat → Nat → Int) : Prop where
  bel : Below w.heap.size w wr
  lt : w.heap.size < wr.heap.size
  done : ∀ i, i < k → ∃ v, wr.cell? ⟨w.heap.size, i, none⟩ = some v ∧ Copy wr w.heap.size v (A i) (L i) (Z i)
  todo : ∀ i, k ≤ i → i < m → wr.cell? ⟨w.heap.size, i, none⟩ = some (.slice none 0 0)
  free : ∀ i, i < m → wr.frozen? ⟨w.heap.size, i, none⟩ = false

theorem Cp.start (w : World) (m : Nat) (A : Nat → Option Addr) (L : Nat → Nat) (Z : Nat → Nat → Int) : Cp w (w.alloc (.cells (madeS m) 23)) m 0 A L Z where
  bel := (Below.refl _ _).alloc (Nat.le_refl _) _
  lt := by simp
  done := fun i hi => absurd hi (Nat.not_lt_zero _)
  todo := fun i _ hi => by
    rw [World.cell?, heap_alloc_new]
    exact madeS_at hi
  free := fun i _ => World.frozen?_alloc_new w _ _ _

theorem Cp.nil {w wr : World} {m k : Nat} {A : Nat → Option Addr} {L : Nat → Nat} {Z : Nat → Nat → Int} (h : Cp w wr m k A L Z) (hk : k < m) (hA : A k = none) : Cp w wr m (k + 1) A L Z where
  bel := h.bel
  lt := h.lt
  done := fun i hi => by
    by_cases e : i = k
    · subst e; exact ⟨_, h.todo i (Nat.le_refl _) hk, .inl ⟨hA, rfl⟩⟩
    · exact h.done i (by omega)
  todo := fun i h1 h2 => h.todo i (by omega) h2
  free := h.free

theorem Cp.put {w wr w' : World} {m k g c : Nat} {A : Nat → Option Addr} {L : Nat → Nat} {Z : Nat → Nat → Int} (h : Cp w wr m k A L Z) (hk : k < m) (hA : (A k).isNone = false) (hb : Below wr.heap.size wr w') (hg : wr.heap.size ≤ g) (hg' : g < w'.heap.size)
    (hc : ∀ j, j < L k → w'.cell? ⟨g, j, none⟩ = some (.int .u8 (Z k j))) : Cp w (w'.setCell ⟨w.heap.size, k, none⟩ (.slice (some ⟨g, 0, none⟩) (L k) c)) m (k + 1) A L Z where
  bel := (h.bel.trans (hb.mono h.bel.size)).setCell (Nat.le_refl _) _
  lt := by have := hb.size; have := h.lt; simp; omega
  done := fun i hi => by
    have hl := h.lt
    by_cases e : i = k
    · subst e
      have h0 := (hb.cell (p := ⟨w.heap.size, i, none⟩) h.lt).trans (h.todo i (Nat.le_refl _) hk)
      exact ⟨_, World.cell?_setCell_same _ _ _ h0, Copy.set (.inr ⟨hA, g, c, rfl, by omega, hg', hc⟩) i _⟩
    · obtain ⟨v, hv, hcp⟩ := h.done i (by omega)
      refine ⟨v, ?_, (hcp.later hb).set k _⟩
      rw [World.cell?_setCell_other _ _ _ _ (by simp only [ne_eq, Addr.mk.injEq]; omega)]
      exact (hb.cell (p := ⟨w.heap.size, i, none⟩) h.lt).trans hv
  todo := fun i h1 h2 => by
    rw [World.cell?_setCell_other _ _ _ _ (by simp only [ne_eq, Addr.mk.injEq]; omega)]
    exact (hb.cell (p := ⟨w.heap.size, i, none⟩) h.lt).trans (h.todo i (by omega) h2)
  free := fun i hi => by
    rw [World.frozen?_setCell]
    exact (hb.frozen (p := ⟨w.heap.size, i, none⟩) h.lt).trans (h.free i hi)

/-- the bytes of one piece -/
def Piece (w : World) (A : Option Addr) (L : Nat) (Z : Nat → Int) : Prop := (A = none → L = 0) ∧ (0 < L → ∃ b off, A = some ⟨b, off, none⟩ ∧ ∀ j, j < L → w.cell? ⟨b, off + j, none⟩ = some (.int .u8 (Z j)))

end Go.Proofs.Ybulkdnus
