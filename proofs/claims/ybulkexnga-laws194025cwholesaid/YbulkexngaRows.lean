/-
  No cell of these rows narrows 'for every input' (looked for: loops, veiled, ifaces, maps, wideKeys, modest, calm, conditions, laid).
  DERIVED. THE GIVEN ROWS OF THIS SEAT. 1 by the template 'for every input the law returns true; each argument reads behind the call as it read before'; 0 by the template 'total and deterministic' (their statements: YbulkexngaTotals.lean).
  GIVEN WITH THE SEED: the statements are not yours to turn. If you find one false, say at which input.
  Laid BY PROGRAM, IN A SANDBOX (cutbox-rows.mjs): the forced cells as the released guide's own fill.sh prints them over the translation 662c191896e7a0f3… (all of the seat's roots in one cut). By AI agents, Wed Nov 11 2026. No macro, syntax, notation, axiom, sorry.
-/
import Derived.Test.YbulkexngaChecked
import GoSem.Claim
import GoSem.ClaimJoined
import GoSem.ClaimMapViews
import Derived.JoinedTies
import Derived.KernelRfl
namespace Go.Proofs.Ybulkexnga
/- THE CELL 'sum', in the pinned program and in every row, IS THE sha256 OF THE DUMP (.gsa) THAT YbulkexngaProg.lean LOADS. Nothing in Lean hashes anything: it is a label: what it is worth is what the hold of that sum in a sandbox is worth. -/
noncomputable def Yba.pinned : Pinned := { name := "ybulkexnga", sum := "662c191896e7a0f39df6460d8a47501fb6a2ec0e32442baf44b656125442dbaa", checked := Yba.checked }
namespace Rows
def none {H : Type} : Left H := { results := [], args := [] }

/-- 'nas.LawS194025CWhole': WHATEVER THE INPUT: true; the input reads as it did. -/
def lawS194025CWholeSpec : ChangeSpec := { name := "lawS194025CWhole", fn := fun _ => fun
  | [d1, d2, d3] => { results := [.lit (.bool true)], args := [d1, d2, d3] }
  | _ => none }
def lawS194025CWholeRow : OpenClaim := { program := "ybulkexnga", sum := "662c191896e7a0f39df6460d8a47501fb6a2ec0e32442baf44b656125442dbaa", func := "example.com/wakefront/wakefront/nas.LawS194025CWhole", spec := "lawS194025CWhole", apart := false }
def LawS194025CWholeSaid : Prop := lawS194025CWholeRow.holds Yba.pinned (OpenSpec.ofChange lawS194025CWholeSpec)

/-- ITS FALSE NEIGHBOUR: 'it returns false'. Refute it at one input. -/
def lawS194025CWholeWrong : ChangeSpec := { name := "lawS194025CWhole", fn := fun _ => fun
  | [d1, d2, d3] => { results := [.lit (.bool false)], args := [d1, d2, d3] }
  | _ => none }
def LawS194025CWholeWrongFalsely : Prop := lawS194025CWholeRow.holds Yba.pinned (OpenSpec.ofChange lawS194025CWholeWrong)

end Rows
end Go.Proofs.Ybulkexnga
