/-
  No cell of these rows narrows 'for every input' (looked for: loops, veiled, ifaces, maps, wideKeys, modest, calm, conditions, laid).
  DERIVED. THE GIVEN ROWS OF THIS SEAT. 2 by the template 'for every input the law returns true; each argument reads behind the call as it read before'; 0 by the template 'total and deterministic' (their statements: YbulkexnjuTotals.lean).
  GIVEN WITH THE SEED: the statements are not yours to turn. If you find one false, say at which input.
  Laid BY PROGRAM, IN A SANDBOX (cutbox-rows.mjs): the forced cells as the released guide's own fill.sh prints them over the translation cbceaf3b0a4f5b29… (all of the seat's roots in one cut). By AI agents, Wed Nov 11 2026. No macro, syntax, notation, axiom, sorry.
-/
import Derived.Test.YbulkexnjuChecked
import GoSem.Claim
import GoSem.ClaimJoined
import GoSem.ClaimMapViews
import Derived.JoinedTies
import Derived.KernelRfl
namespace Go.Proofs.Ybulkexnju
/- THE CELL 'sum', in the pinned program and in every row, IS THE sha256 OF THE DUMP (.gsa) THAT YbulkexnjuProg.lean LOADS. Nothing in Lean hashes anything: it is a label: what it is worth is what the hold of that sum in a sandbox is worth. -/
noncomputable def Yba.pinned : Pinned := { name := "ybulkexnju", sum := "cbceaf3b0a4f5b29e3e701311970f5d5797596ffd07c7d56dc18316d8da5115f", checked := Yba.checked }
namespace Rows
def none {H : Type} : Left H := { results := [], args := [] }

/-- 'vm.LawS194032AWhole': WHATEVER THE INPUT: true; the input reads as it did. -/
def lawS194032AWholeSpec : ChangeSpec := { name := "lawS194032AWhole", fn := fun _ => fun
  | [d1, d2, d3, d4, d5, d6, d7, d8] => { results := [.lit (.bool true)], args := [d1, d2, d3, d4, d5, d6, d7, d8] }
  | _ => none }
def lawS194032AWholeRow : OpenClaim := { program := "ybulkexnju", sum := "cbceaf3b0a4f5b29e3e701311970f5d5797596ffd07c7d56dc18316d8da5115f", func := "example.com/tenet/tenet/internal/vm.LawS194032AWhole", spec := "lawS194032AWhole", unfollowed := true, recurses := true, apart := false }
def LawS194032AWholeSaid : Prop := lawS194032AWholeRow.holds Yba.pinned (OpenSpec.ofChange lawS194032AWholeSpec)

/-- ITS FALSE NEIGHBOUR: 'it returns false'. Refute it at one input. -/
def lawS194032AWholeWrong : ChangeSpec := { name := "lawS194032AWhole", fn := fun _ => fun
  | [d1, d2, d3, d4, d5, d6, d7, d8] => { results := [.lit (.bool false)], args := [d1, d2, d3, d4, d5, d6, d7, d8] }
  | _ => none }
def LawS194032AWholeWrongFalsely : Prop := lawS194032AWholeRow.holds Yba.pinned (OpenSpec.ofChange lawS194032AWholeWrong)

/-- 'vm.LawS194032CWhole': WHATEVER THE INPUT: true; the input reads as it did. -/
def lawS194032CWholeSpec : ChangeSpec := { name := "lawS194032CWhole", fn := fun _ => fun
  | [d1, d2, d3] => { results := [.lit (.bool true)], args := [d1, d2, d3] }
  | _ => none }
def lawS194032CWholeRow : OpenClaim := { program := "ybulkexnju", sum := "cbceaf3b0a4f5b29e3e701311970f5d5797596ffd07c7d56dc18316d8da5115f", func := "example.com/tenet/tenet/internal/vm.LawS194032CWhole", spec := "lawS194032CWhole", unfollowed := true, recurses := true, named := ["encoding/binary.LittleEndian"], apart := false }
def LawS194032CWholeSaid : Prop := lawS194032CWholeRow.holds Yba.pinned (OpenSpec.ofChange lawS194032CWholeSpec)

/-- ITS FALSE NEIGHBOUR: 'it returns false'. Refute it at one input. -/
def lawS194032CWholeWrong : ChangeSpec := { name := "lawS194032CWhole", fn := fun _ => fun
  | [d1, d2, d3] => { results := [.lit (.bool false)], args := [d1, d2, d3] }
  | _ => none }
def LawS194032CWholeWrongFalsely : Prop := lawS194032CWholeRow.holds Yba.pinned (OpenSpec.ofChange lawS194032CWholeWrong)

end Rows
end Go.Proofs.Ybulkexnju
