/-
  No cell of these rows narrows 'for every input' (looked for: loops, veiled, ifaces, maps, wideKeys, modest, calm, conditions, laid).
  DERIVED. THE GIVEN ROWS OF THIS SEAT. 3 by the template 'for every input the law returns true; each argument reads behind the call as it read before'; 0 by the template 'total and deterministic' (their statements: YbulkdnusTotals.lean).
  GIVEN WITH THE SEED: the statements are not yours to turn. If you find one false, say at which input.
  Laid BY PROGRAM, IN A SANDBOX (cutbox-rows.mjs): the forced cells as the released guide's own fill.sh prints them over the translation f961c8f1abda18c3… (all of the seat's roots in one cut). By AI agents, Wed Nov 11 2026. No macro, syntax, notation, axiom, sorry.
-/
import Derived.Test.YbulkdnusChecked
import GoSem.Claim
import GoSem.ClaimJoined
import GoSem.ClaimMapViews
import Derived.JoinedTies
import Derived.KernelRfl
namespace Go.Proofs.Ybulkdnus
/- THE CELL 'sum', in the pinned program and in every row, IS THE sha256 OF THE DUMP (.gsa) THAT YbulkdnusProg.lean LOADS. Nothing in Lean hashes anything: it is a label: what it is worth is what the hold of that sum in a sandbox is worth. -/
noncomputable def Yba.pinned : Pinned := { name := "ybulkdnus", sum := "f961c8f1abda18c37c0b0878b44663e4721f07713384f4fe09dad954176d97f4", checked := Yba.checked }
namespace Rows
def none {H : Type} : Left H := { results := [], args := [] }

/-- 'framewire.LawS5738AWhole': WHATEVER THE INPUT: true; the input reads as it did. -/
def lawS5738AWholeSpec : ChangeSpec := { name := "lawS5738AWhole", fn := fun _ => fun
  | [d1, d2] => { results := [.lit (.bool true)], args := [d1, d2] }
  | _ => none }
def lawS5738AWholeRow : OpenClaim := { program := "ybulkdnus", sum := "f961c8f1abda18c37c0b0878b44663e4721f07713384f4fe09dad954176d97f4", func := "example.com/framewire/framewire.LawS5738AWhole", spec := "lawS5738AWhole", apart := false }
def LawS5738AWholeSaid : Prop := lawS5738AWholeRow.holds Yba.pinned (OpenSpec.ofChange lawS5738AWholeSpec)

/-- ITS FALSE NEIGHBOUR: 'it returns false'. Refute it at one input. -/
def lawS5738AWholeWrong : ChangeSpec := { name := "lawS5738AWhole", fn := fun _ => fun
  | [d1, d2] => { results := [.lit (.bool false)], args := [d1, d2] }
  | _ => none }
def LawS5738AWholeWrongFalsely : Prop := lawS5738AWholeRow.holds Yba.pinned (OpenSpec.ofChange lawS5738AWholeWrong)

/-- 'framewire.LawS5738BWhole': WHATEVER THE INPUT: true; the input reads as it did. -/
def lawS5738BWholeSpec : ChangeSpec := { name := "lawS5738BWhole", fn := fun _ => fun
  | [d1, d2, d3, d4, d5, d6, d7] => { results := [.lit (.bool true)], args := [d1, d2, d3, d4, d5, d6, d7] }
  | _ => none }
def lawS5738BWholeRow : OpenClaim := { program := "ybulkdnus", sum := "f961c8f1abda18c37c0b0878b44663e4721f07713384f4fe09dad954176d97f4", func := "example.com/framewire/framewire.LawS5738BWhole", spec := "lawS5738BWhole", apart := false }
def LawS5738BWholeSaid : Prop := lawS5738BWholeRow.holds Yba.pinned (OpenSpec.ofChange lawS5738BWholeSpec)

/-- ITS FALSE NEIGHBOUR: 'it returns false'. Refute it at one input. -/
def lawS5738BWholeWrong : ChangeSpec := { name := "lawS5738BWhole", fn := fun _ => fun
  | [d1, d2, d3, d4, d5, d6, d7] => { results := [.lit (.bool false)], args := [d1, d2, d3, d4, d5, d6, d7] }
  | _ => none }
def LawS5738BWholeWrongFalsely : Prop := lawS5738BWholeRow.holds Yba.pinned (OpenSpec.ofChange lawS5738BWholeWrong)

/-- 'framewire.LawS5738CWhole': WHATEVER THE INPUT: true; the input reads as it did. -/
def lawS5738CWholeSpec : ChangeSpec := { name := "lawS5738CWhole", fn := fun _ => fun
  | [d1, d2, d3, d4, d5, d6] => { results := [.lit (.bool true)], args := [d1, d2, d3, d4, d5, d6] }
  | _ => none }
def lawS5738CWholeRow : OpenClaim := { program := "ybulkdnus", sum := "f961c8f1abda18c37c0b0878b44663e4721f07713384f4fe09dad954176d97f4", func := "example.com/framewire/framewire.LawS5738CWhole", spec := "lawS5738CWhole", inPlace := ["(*internal/sync.Mutex).Lock", "internal/race.Disable", "sync/atomic.CompareAndSwapInt32", "internal/race.Enable", "internal/race.Acquire", "(*internal/sync.Mutex).lockSlow", "internal/sync.runtime_canSpin", "internal/sync.runtime_doSpin", "internal/sync.throw", "internal/sync.runtime_nanotime", "internal/sync.runtime_SemacquireMutex", "sync/atomic.AddInt32", "(*internal/sync.Mutex).Unlock", "internal/race.ReleaseMerge", "(*internal/sync.Mutex).unlockSlow", "internal/sync.fatal", "internal/sync.runtime_Semrelease", "(*sync.WaitGroup).Wait", "sync/atomic.LoadUint64", "internal/synctest.IsAssociated[sync.WaitGroup]", "sync/atomic.CompareAndSwapUint64", "internal/synctest.Disassociate[sync.WaitGroup]", "internal/race.Write", "internal/synctest.IsInBubble", "sync.runtime_SemacquireWaitGroup", "(*internal/sync.Mutex).TryLock"], unfollowed := true, recurses := true, apart := false }
def LawS5738CWholeSaid : Prop := lawS5738CWholeRow.holds Yba.pinned (OpenSpec.ofChange lawS5738CWholeSpec)

/-- ITS FALSE NEIGHBOUR: 'it returns false'. Refute it at one input. -/
def lawS5738CWholeWrong : ChangeSpec := { name := "lawS5738CWhole", fn := fun _ => fun
  | [d1, d2, d3, d4, d5, d6] => { results := [.lit (.bool false)], args := [d1, d2, d3, d4, d5, d6] }
  | _ => none }
def LawS5738CWholeWrongFalsely : Prop := lawS5738CWholeRow.holds Yba.pinned (OpenSpec.ofChange lawS5738CWholeWrong)

end Rows
end Go.Proofs.Ybulkdnus
