import Derived.Test.YbulkdnueCLone
import Derived.Deep.MidRow
namespace Go.Proofs.Ybulkdnue
open Go.RowKit

/-- the seven cells of a source of the law's own type -/
def Src.src (x : Src) : Array Value := #[.string x.s, .float .f64 x.wt, .float .f64 x.l, .bool x.d, .bool x.c, .bool x.st, .bool x.q]

def XRow (w : World) (b off n : Nat) (X : Nat → Src) : Prop :=
  ∀ i, i < n → ∀ j u, (X i).src[j]? = some u → w.cell? ⟨b, off + i * 7 + j, none⟩ = some u

theorem XRow.at {w : World} {b off n i : Nat} {X : Nat → Src} (h : XRow w b off n X) (hi : i < n) :
    w.cell? ⟨b, off + i * 7, none⟩ = some (.string (X i).s) ∧ w.cell? ⟨b, off + i * 7 + 1, none⟩ = some (.float .f64 (X i).wt) ∧ w.cell? ⟨b, off + i * 7 + 2, none⟩ = some (.float .f64 (X i).l) ∧
    w.cell? ⟨b, off + i * 7 + 3, none⟩ = some (.bool (X i).d) ∧ w.cell? ⟨b, off + i * 7 + 4, none⟩ = some (.bool (X i).c) ∧ w.cell? ⟨b, off + i * 7 + 5, none⟩ = some (.bool (X i).st) ∧ w.cell? ⟨b, off + i * 7 + 6, none⟩ = some (.bool (X i).q) :=
  ⟨h i hi 0 _ rfl, h i hi 1 _ rfl, h i hi 2 _ rfl, h i hi 3 _ rfl, h i hi 4 _ rfl, h i hi 5 _ rfl, h i hi 6 _ rfl⟩

theorem XRow.kept {w w' : World} {b off n : Nat} {X : Nat → Src} (h : XRow w b off n X) {B : Nat} (hb : Below B w w') (hg : b < B) : XRow w' b off n X :=
  fun i hi j u hu => (hb.cell (p := ⟨b, off + i * 7 + j, none⟩) hg).trans (h i hi j u hu)

def zero51 : Value := .agg #[.string ByteArray.empty, .float .f64 0, .float .f64 0, .int .u64 0, .int .i64 0, .pointer none, .bool false, .bool false, .slice none 0 0, .slice none 0 0, .bool false, .int .u64 0, .int .i64 0, .pointer none, .bool false]

theorem info51 : (Yba.prog.info? 51).map (fun i => (i.zero, i.size, i.bytes)) = some (some zero51, 15, 152) := by kernel_rfl

theorem size51 : (Yba.prog.info? 51).map (·.size) = some 15 := by kernel_rfl

def made (n : Nat) : Array Value := madeCells zero51.cells (n * 15)

theorem run_mk (n : Nat) (hn : n ≤ 1048576) (w : World) : (Instr.makeSlice 37 (.int .i64 n) (.int .i64 n)).run Yba.prog w = .ok (.slice (some ⟨w.heap.size, 0, none⟩) n n) (w.alloc (.cells (made n) 51)) := by
  obtain ⟨i, hi, hz0, hz1, hz2⟩ := info_parts info51
  have := run_make (P := Yba.prog) w 37 51 i zero51 Yba.underlying37 hi hz0 .i64 .i64 n n (by omega) (by omega) (by rw [hz2]; omega) (by omega)
  rw [this, hz1]; simp [made]

/-- what holds of the world in the first loop -/
structure Built (w wr : World) (n k : Nat) (X : Nat → Src) : Prop where
  bel : Below w.heap.size w wr
  lt : w.heap.size < wr.heap.size
  row : SrcRow wr w.heap.size k X
  room : wr.there w.heap.size 0 (n * 15)

theorem Built.start (w : World) (n : Nat) (X : Nat → Src) : Built w (w.alloc (.cells (made n) 51)) n 0 X where
  bel := (Below.refl _ _).alloc (Nat.le_refl _) _
  lt := by simp
  row := fun i hi => absurd hi (Nat.not_lt_zero _)
  room := fun j hj => by
    refine ⟨?_, World.frozen?_alloc_new w _ _ _⟩
    rw [World.cell?, heap_alloc_new]
    have : (0 + j) < (made n).size := by rw [made, size_madeCells]; omega
    show ((made n)[0 + j]?).isSome = true
    rw [Array.getElem?_eq_getElem this]; rfl

theorem below_setCells {B : Nat} {a w : World} (h : Below B a w) {g : Nat} (hg : B ≤ g) : ∀ (vs : List Value) (o : Nat), Below B a (w.setCells g o vs) := by
  intro vs
  induction vs generalizing w with
  | nil => intro o; exact h
  | cons v r ih => intro o; exact ih (h.setCell (p := ⟨g, o, none⟩) hg v) (o + 1)

theorem size_setCells (g : Nat) : ∀ (vs : List Value) (o : Nat) (w : World), (w.setCells g o vs).heap.size = w.heap.size := by
  intro vs
  induction vs with
  | nil => intro o w; rfl
  | cons v r ih => intro o w; rw [World.setCells, ih]; simp

theorem Built.there {w wr : World} {n k : Nat} {X : Nat → Src} (h : Built w wr n k X) (hk : k < n) : wr.there w.heap.size (k * 15) 15 := fun j hj => by
  have := h.room (k * 15 + j) (by omega)
  rwa [Nat.zero_add] at this

theorem Built.step {w wr : World} {n k : Nat} {X : Nat → Src} (h : Built w wr n k X) (hk : k < n) : Built w (wr.drew.setCells w.heap.size (k * 15) (X k).cells.toList) n (k + 1) X where
  bel := below_setCells h.bel.drew (Nat.le_refl _) _ _
  lt := by rw [size_setCells]; exact h.lt
  row := fun i hi => by
    by_cases e : i = k
    · subst e
      intro j u hu
      exact World.rangeAt_setCells_same wr.drew w.heap.size (i * 15) (X i).cells.toList (by
        have := (World.there_drew wr _ _ _).2 (h.there hk)
        simpa [Src.cells] using this) j u (by simpa using hu)
    · have hr : wr.drew.rangeAt w.heap.size (i * 15) (X i).cells.toList := fun j u hu => h.row i (by omega) j u (by simpa using hu)
      have := World.rangeAt_setCells_apart hr w.heap.size (k * 15) (X k).cells.toList (.inr (.inl (by simp [Src.cells]; omega)))
      intro j u hu
      exact this j u (by simpa using hu)
  room := World.there_setCells ((World.there_drew wr _ _ _).2 h.room) _ _ _

end Go.Proofs.Ybulkdnue
