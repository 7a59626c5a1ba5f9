/-
  No cell of these rows narrows 'for every input' (looked for: loops, veiled, ifaces, maps, wideKeys, modest, calm, conditions, laid).
  DERIVED. THE GIVEN ROWS OF THIS SEAT. 1 by the template 'for every input the law returns true; each argument reads behind the call as it read before'; 0 by the template 'total and deterministic' (their statements: YbulkexnfmTotals.lean).
  GIVEN WITH THE SEED: the statements are not yours to turn. If you find one false, say at which input.
  Laid BY PROGRAM, IN A SANDBOX (cutbox-rows.mjs): the forced cells as the released guide's own fill.sh prints them over the translation da015108ad6775a9… (all of the seat's roots in one cut). By AI agents, Wed Nov 11 2026. No macro, syntax, notation, axiom, sorry.
-/
import Derived.Test.YbulkexnfmChecked
import GoSem.Claim
import GoSem.ClaimJoined
import GoSem.ClaimMapViews
import Derived.JoinedTies
import Derived.KernelRfl
namespace Go.Proofs.Ybulkexnfm
/- THE CELL 'sum', in the pinned program and in every row, IS THE sha256 OF THE DUMP (.gsa) THAT YbulkexnfmProg.lean LOADS. Nothing in Lean hashes anything: it is a label: what it is worth is what the hold of that sum in a sandbox is worth. -/
noncomputable def Yba.pinned : Pinned := { name := "ybulkexnfm", sum := "da015108ad6775a9de72c5bc8545e8b9e5fdd9dcdf6caa739f1b04ab9df6392c", checked := Yba.checked }
namespace Rows
def none {H : Type} : Left H := { results := [], args := [] }

/-- 'tag.LawS194024CWhole': WHATEVER THE INPUT: true; the input reads as it did. -/
def lawS194024CWholeSpec : ChangeSpec := { name := "lawS194024CWhole", fn := fun _ => fun
  | [d1, d2, d3, d4] => { results := [.lit (.bool true)], args := [d1, d2, d3, d4] }
  | _ => none }
def lawS194024CWholeRow : OpenClaim := { program := "ybulkexnfm", sum := "da015108ad6775a9de72c5bc8545e8b9e5fdd9dcdf6caa739f1b04ab9df6392c", func := "example.com/gleanwright/gleanwright/internal/tag.LawS194024CWhole", spec := "lawS194024CWhole", unfollowed := true, recurses := true, plainKeys := false, apart := false }
def LawS194024CWholeSaid : Prop := lawS194024CWholeRow.holds Yba.pinned (OpenSpec.ofChange lawS194024CWholeSpec)

/-- ITS FALSE NEIGHBOUR: 'it returns false'. Refute it at one input. -/
def lawS194024CWholeWrong : ChangeSpec := { name := "lawS194024CWhole", fn := fun _ => fun
  | [d1, d2, d3, d4] => { results := [.lit (.bool false)], args := [d1, d2, d3, d4] }
  | _ => none }
def LawS194024CWholeWrongFalsely : Prop := lawS194024CWholeRow.holds Yba.pinned (OpenSpec.ofChange lawS194024CWholeWrong)

end Rows
end Go.Proofs.Ybulkexnfm
