/-
  No cell of these rows narrows 'for every input' (looked for: loops, veiled, ifaces, maps, wideKeys, modest, calm, conditions, laid).
  DERIVED. THE GIVEN ROWS OF THIS SEAT. 1 by the template 'for every input the law returns true; each argument reads behind the call as it read before'; 0 by the template 'total and deterministic' (their statements: YbulkdnymTotals.lean).
  GIVEN WITH THE SEED: the statements are not yours to turn. If you find one false, say at which input.
  Laid BY PROGRAM, IN A SANDBOX (cutbox-rows.mjs): the forced cells as the released guide's own fill.sh prints them over the translation 3bc8e9baf32f8d4c… (all of the seat's roots in one cut). By AI agents, Wed Nov 11 2026. No macro, syntax, notation, axiom, sorry.
-/
import Derived.Test.YbulkdnymChecked
import GoSem.Claim
import GoSem.ClaimJoined
import GoSem.ClaimMapViews
import Derived.JoinedTies
import Derived.KernelRfl
namespace Go.Proofs.Ybulkdnym
/- THE CELL 'sum', in the pinned program and in every row, IS THE sha256 OF THE DUMP (.gsa) THAT YbulkdnymProg.lean LOADS. Nothing in Lean hashes anything: it is a label: what it is worth is what the hold of that sum in a sandbox is worth. -/
noncomputable def Yba.pinned : Pinned := { name := "ybulkdnym", sum := "3bc8e9baf32f8d4ccc50b7374aef38b915d60f09cef0dcf9284ab0b3d90d3b88", checked := Yba.checked }
namespace Rows
def none {H : Type} : Left H := { results := [], args := [] }

/-- 'shuntyard.LawS5745AWhole': WHATEVER THE INPUT: true; the input reads as it did. -/
def lawS5745AWholeSpec : ChangeSpec := { name := "lawS5745AWhole", fn := fun _ => fun
  | [d1, d2, d3] => { results := [.lit (.bool true)], args := [d1, d2, d3] }
  | _ => none }
def lawS5745AWholeRow : OpenClaim := { program := "ybulkdnym", sum := "3bc8e9baf32f8d4ccc50b7374aef38b915d60f09cef0dcf9284ab0b3d90d3b88", func := "example.com/shuntyard/shuntyard.LawS5745AWhole", spec := "lawS5745AWhole", apart := false }
def LawS5745AWholeSaid : Prop := lawS5745AWholeRow.holds Yba.pinned (OpenSpec.ofChange lawS5745AWholeSpec)

/-- ITS FALSE NEIGHBOUR: 'it returns false'. Refute it at one input. -/
def lawS5745AWholeWrong : ChangeSpec := { name := "lawS5745AWhole", fn := fun _ => fun
  | [d1, d2, d3] => { results := [.lit (.bool false)], args := [d1, d2, d3] }
  | _ => none }
def LawS5745AWholeWrongFalsely : Prop := lawS5745AWholeRow.holds Yba.pinned (OpenSpec.ofChange lawS5745AWholeWrong)

end Rows
end Go.Proofs.Ybulkdnym
