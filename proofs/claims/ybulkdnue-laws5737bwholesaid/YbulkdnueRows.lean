/-
  No cell of these rows narrows 'for every input' (looked for: loops, veiled, ifaces, maps, wideKeys, modest, calm, conditions, laid).
  DERIVED. THE GIVEN ROWS OF THIS SEAT. 2 by the template 'for every input the law returns true; each argument reads behind the call as it read before'; 0 by the template 'total and deterministic' (their statements: YbulkdnueTotals.lean).
  GIVEN WITH THE SEED: the statements are not yours to turn. If you find one false, say at which input.
  Laid BY PROGRAM, IN A SANDBOX (cutbox-rows.mjs): the forced cells as the released guide's own fill.sh prints them over the translation 291b6bc72d9d9cef… (all of the seat's roots in one cut). By AI agents, Wed Nov 11 2026. No macro, syntax, notation, axiom, sorry.
-/
import Derived.Test.YbulkdnueChecked
import GoSem.Claim
import GoSem.ClaimJoined
import GoSem.ClaimMapViews
import Derived.JoinedTies
import Derived.KernelRfl
namespace Go.Proofs.Ybulkdnue
/- THE CELL 'sum', in the pinned program and in every row, IS THE sha256 OF THE DUMP (.gsa) THAT YbulkdnueProg.lean LOADS. Nothing in Lean hashes anything: it is a label: what it is worth is what the hold of that sum in a sandbox is worth. -/
noncomputable def Yba.pinned : Pinned := { name := "ybulkdnue", sum := "291b6bc72d9d9cefd4678785a7ee98ed649fb4db6093491c1f9b608fd7987218", checked := Yba.checked }
namespace Rows
def none {H : Type} : Left H := { results := [], args := [] }

/-- 'perpetua.LawS5737BWhole': WHATEVER THE INPUT: true; the input reads as it did. -/
def lawS5737BWholeSpec : ChangeSpec := { name := "lawS5737BWhole", fn := fun _ => fun
  | [d1, d2, d3] => { results := [.lit (.bool true)], args := [d1, d2, d3] }
  | _ => none }
def lawS5737BWholeRow : OpenClaim := { program := "ybulkdnue", sum := "291b6bc72d9d9cefd4678785a7ee98ed649fb4db6093491c1f9b608fd7987218", func := "example.com/perpetua/perpetua.LawS5737BWhole", spec := "lawS5737BWhole", apart := false }
def LawS5737BWholeSaid : Prop := lawS5737BWholeRow.holds Yba.pinned (OpenSpec.ofChange lawS5737BWholeSpec)

/-- ITS FALSE NEIGHBOUR: 'it returns false'. Refute it at one input. -/
def lawS5737BWholeWrong : ChangeSpec := { name := "lawS5737BWhole", fn := fun _ => fun
  | [d1, d2, d3] => { results := [.lit (.bool false)], args := [d1, d2, d3] }
  | _ => none }
def LawS5737BWholeWrongFalsely : Prop := lawS5737BWholeRow.holds Yba.pinned (OpenSpec.ofChange lawS5737BWholeWrong)

/-- 'perpetua.LawS5737CWhole': WHATEVER THE INPUT: true; the input reads as it did. -/
def lawS5737CWholeSpec : ChangeSpec := { name := "lawS5737CWhole", fn := fun _ => fun
  | [d] => { results := [.lit (.bool true)], args := [d] }
  | _ => none }
def lawS5737CWholeRow : OpenClaim := { program := "ybulkdnue", sum := "291b6bc72d9d9cefd4678785a7ee98ed649fb4db6093491c1f9b608fd7987218", func := "example.com/perpetua/perpetua.LawS5737CWhole", spec := "lawS5737CWhole", inPlace := ["math.Float64bits"], apart := false }
def LawS5737CWholeSaid : Prop := lawS5737CWholeRow.holds Yba.pinned (OpenSpec.ofChange lawS5737CWholeSpec)

/-- ITS FALSE NEIGHBOUR: 'it returns false'. Refute it at one input. -/
def lawS5737CWholeWrong : ChangeSpec := { name := "lawS5737CWhole", fn := fun _ => fun
  | [d] => { results := [.lit (.bool false)], args := [d] }
  | _ => none }
def LawS5737CWholeWrongFalsely : Prop := lawS5737CWholeRow.holds Yba.pinned (OpenSpec.ofChange lawS5737CWholeWrong)

end Rows
end Go.Proofs.Ybulkdnue
