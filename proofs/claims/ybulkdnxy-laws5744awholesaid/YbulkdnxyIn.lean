import Derived.Test.YbulkdnxyParts
namespace Go.Proofs.Ybulkdnxy
open Go.RowKit
set_option linter.unusedVariables false

/-- a node as it lies in memory: the three slices' headers beside its data -/
structure Src where
  ka : Option Addr
  kc : Nat
  da : Option Addr
  dc : Nat
  ia : Option Addr
  ic : Nat
  d : Nd

def StrRow (w : World) (a : Option Addr) (n : Nat) (K : Nat → ByteArray) : Prop := 0 < n → ∃ b off, a = some ⟨b, off, none⟩ ∧ b < w.heap.size ∧ ∀ j, j < n → w.cell? ⟨b, off + j, none⟩ = some (.string (K j))
def IntRow (w : World) (a : Option Addr) (n : Nat) (Z : Nat → Int) : Prop := 0 < n → ∃ b off, a = some ⟨b, off, none⟩ ∧ b < w.heap.size ∧ ∀ j, j < n → w.cell? ⟨b, off + j, none⟩ = some (.int .i64 (Z j))

structure Good (w : World) (x : Src) : Prop where
  keys : StrRow w x.ka x.d.nk x.d.K
  kids : IntRow w x.da x.d.nd x.d.D
  items : IntRow w x.ia x.d.ni x.d.I
  bk : x.d.nk ≤ 140737488351232
  bd : x.d.nd ≤ 140737488351232
  bi : x.d.ni * 8 ≤ 140737488351232
  rd : ∀ j, -9223372036854775808 ≤ x.d.D j ∧ x.d.D j ≤ 9223372036854775807
  ri : ∀ j, -9223372036854775808 ≤ x.d.I j ∧ x.d.I j ≤ 9223372036854775807
  rf : -9223372036854775808 ≤ x.d.fm ∧ x.d.fm ≤ 9223372036854775807

/-- the nodes as they came in -/
def NRow (w : World) (a : Option Addr) (nn : Nat) (X : Nat → Src) : Prop := 0 < nn → ∃ b off, a = some ⟨b, off, none⟩ ∧ b < w.heap.size ∧ ∀ i, i < nn →
  w.cell? ⟨b, off + i * 4, none⟩ = some (.slice (X i).ka (X i).d.nk (X i).kc) ∧ w.cell? ⟨b, off + i * 4 + 1, none⟩ = some (.slice (X i).da (X i).d.nd (X i).dc) ∧
  w.cell? ⟨b, off + i * 4 + 2, none⟩ = some (.slice (X i).ia (X i).d.ni (X i).ic) ∧ w.cell? ⟨b, off + i * 4 + 3, none⟩ = some (.int .i64 (X i).d.fm) ∧ Good w (X i)

/-- the path as it came in -/
def SRow (w : World) (a : Option Addr) (pl : Nat) (S : Nat → Sg) : Prop := 0 < pl → ∃ b off, a = some ⟨b, off, none⟩ ∧ b < w.heap.size ∧ ∀ i, i < pl →
  w.cell? ⟨b, off + i * 3, none⟩ = some (.int .u8 (S i).kind) ∧ w.cell? ⟨b, off + i * 3 + 1, none⟩ = some (.string (S i).K) ∧ w.cell? ⟨b, off + i * 3 + 2, none⟩ = some (.int .i64 (S i).I) ∧
  0 ≤ (S i).kind ∧ (S i).kind ≤ 255 ∧ -9223372036854775808 ≤ (S i).I ∧ (S i).I ≤ 9223372036854775807

theorem StrRow.kept {w w' : World} {a : Option Addr} {n : Nat} {K : Nat → ByteArray} (h : StrRow w a n K) (hb : Below w.heap.size w w') : StrRow w' a n K := fun h0 => by
  obtain ⟨b, off, e, hl, hc⟩ := h h0
  exact ⟨b, off, e, Nat.lt_of_lt_of_le hl hb.size, fun j hj => (hb.cell (p := ⟨b, off + j, none⟩) hl).trans (hc j hj)⟩
theorem IntRow.kept {w w' : World} {a : Option Addr} {n : Nat} {Z : Nat → Int} (h : IntRow w a n Z) (hb : Below w.heap.size w w') : IntRow w' a n Z := fun h0 => by
  obtain ⟨b, off, e, hl, hc⟩ := h h0
  exact ⟨b, off, e, Nat.lt_of_lt_of_le hl hb.size, fun j hj => (hb.cell (p := ⟨b, off + j, none⟩) hl).trans (hc j hj)⟩

end Go.Proofs.Ybulkdnxy
