/-
  No cell of these rows narrows 'for every input' (looked for: loops, veiled, ifaces, maps, wideKeys, modest, calm, conditions, laid).
  DERIVED. THE GIVEN ROWS OF THIS SEAT. 1 by the template 'for every input the law returns true; each argument reads behind the call as it read before'; 0 by the template 'total and deterministic' (their statements: YbulkdnxyTotals.lean).
  GIVEN WITH THE SEED: the statements are not yours to turn. If you find one false, say at which input.
  Laid BY PROGRAM, IN A SANDBOX (cutbox-rows.mjs): the forced cells as the released guide's own fill.sh prints them over the translation 5f2b4efe46e264c9… (all of the seat's roots in one cut). By AI agents, Wed Nov 11 2026. No macro, syntax, notation, axiom, sorry.
-/
import Derived.Test.YbulkdnxyChecked
import GoSem.Claim
import GoSem.ClaimJoined
import GoSem.ClaimMapViews
import Derived.JoinedTies
import Derived.KernelRfl
namespace Go.Proofs.Ybulkdnxy
/- THE CELL 'sum', in the pinned program and in every row, IS THE sha256 OF THE DUMP (.gsa) THAT YbulkdnxyProg.lean LOADS. Nothing in Lean hashes anything: it is a label: what it is worth is what the hold of that sum in a sandbox is worth. -/
noncomputable def Yba.pinned : Pinned := { name := "ybulkdnxy", sum := "5f2b4efe46e264c9b8e21e0db1ad13504b99a9ce9be41b91f9802bc6cb4682ff", checked := Yba.checked }
namespace Rows
def none {H : Type} : Left H := { results := [], args := [] }

/-- 'dms.LawS5744AWhole': WHATEVER THE INPUT: true; the input reads as it did. -/
def lawS5744AWholeSpec : ChangeSpec := { name := "lawS5744AWhole", fn := fun _ => fun
  | [d1, d2] => { results := [.lit (.bool true)], args := [d1, d2] }
  | _ => none }
def lawS5744AWholeRow : OpenClaim := { program := "ybulkdnxy", sum := "5f2b4efe46e264c9b8e21e0db1ad13504b99a9ce9be41b91f9802bc6cb4682ff", func := "example.com/kittiwake/kittiwake/dms.LawS5744AWhole", spec := "lawS5744AWhole", apart := false }
def LawS5744AWholeSaid : Prop := lawS5744AWholeRow.holds Yba.pinned (OpenSpec.ofChange lawS5744AWholeSpec)

/-- ITS FALSE NEIGHBOUR: 'it returns false'. Refute it at one input. -/
def lawS5744AWholeWrong : ChangeSpec := { name := "lawS5744AWhole", fn := fun _ => fun
  | [d1, d2] => { results := [.lit (.bool false)], args := [d1, d2] }
  | _ => none }
def LawS5744AWholeWrongFalsely : Prop := lawS5744AWholeRow.holds Yba.pinned (OpenSpec.ofChange lawS5744AWholeWrong)

end Rows
end Go.Proofs.Ybulkdnxy
