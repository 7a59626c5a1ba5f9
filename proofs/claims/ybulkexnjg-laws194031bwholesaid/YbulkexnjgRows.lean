/-
  No cell of these rows narrows 'for every input' (looked for: loops, veiled, ifaces, maps, wideKeys, modest, calm, conditions, laid).
  DERIVED. THE GIVEN ROWS OF THIS SEAT. 2 by the template 'for every input the law returns true; each argument reads behind the call as it read before'; 0 by the template 'total and deterministic' (their statements: YbulkexnjgTotals.lean).
  GIVEN WITH THE SEED: the statements are not yours to turn. If you find one false, say at which input.
  Laid BY PROGRAM, IN A SANDBOX (cutbox-rows.mjs): the forced cells as the released guide's own fill.sh prints them over the translation 6528daf3b5f35d3d… (all of the seat's roots in one cut). By AI agents, Wed Nov 11 2026. No macro, syntax, notation, axiom, sorry.
-/
import Derived.Test.YbulkexnjgChecked
import GoSem.Claim
import GoSem.ClaimJoined
import GoSem.ClaimMapViews
import Derived.JoinedTies
import Derived.KernelRfl
namespace Go.Proofs.Ybulkexnjg
/- THE CELL 'sum', in the pinned program and in every row, IS THE sha256 OF THE DUMP (.gsa) THAT YbulkexnjgProg.lean LOADS. Nothing in Lean hashes anything: it is a label: what it is worth is what the hold of that sum in a sandbox is worth. -/
noncomputable def Yba.pinned : Pinned := { name := "ybulkexnjg", sum := "6528daf3b5f35d3dd2bf48cb434c3e32803090d3140dda0e9ff412723eba2469", checked := Yba.checked }
namespace Rows
def none {H : Type} : Left H := { results := [], args := [] }

/-- 'scheduler.LawS194031APart': WHATEVER THE INPUT: true; the input reads as it did. -/
def lawS194031APartSpec : ChangeSpec := { name := "lawS194031APart", fn := fun _ => fun
  | [d1, d2, d3] => { results := [.lit (.bool true)], args := [d1, d2, d3] }
  | _ => none }
def lawS194031APartRow : OpenClaim := { program := "ybulkexnjg", sum := "6528daf3b5f35d3dd2bf48cb434c3e32803090d3140dda0e9ff412723eba2469", func := "example.com/tenure/tenure/internal/scheduler.LawS194031APart", spec := "lawS194031APart", inPlace := ["slices.overlaps[*example.com/tenure/tenure/internal/scheduler.NodeState]"], unfollowed := true, recurses := true, apart := false }
def LawS194031APartSaid : Prop := lawS194031APartRow.holds Yba.pinned (OpenSpec.ofChange lawS194031APartSpec)

/-- ITS FALSE NEIGHBOUR: 'it returns false'. Refute it at one input. -/
def lawS194031APartWrong : ChangeSpec := { name := "lawS194031APart", fn := fun _ => fun
  | [d1, d2, d3] => { results := [.lit (.bool false)], args := [d1, d2, d3] }
  | _ => none }
def LawS194031APartWrongFalsely : Prop := lawS194031APartRow.holds Yba.pinned (OpenSpec.ofChange lawS194031APartWrong)

/-- 'scheduler.LawS194031BWhole': WHATEVER THE INPUT: true; the input reads as it did. -/
def lawS194031BWholeSpec : ChangeSpec := { name := "lawS194031BWhole", fn := fun _ => fun
  | [d1, d2, d3] => { results := [.lit (.bool true)], args := [d1, d2, d3] }
  | _ => none }
def lawS194031BWholeRow : OpenClaim := { program := "ybulkexnjg", sum := "6528daf3b5f35d3dd2bf48cb434c3e32803090d3140dda0e9ff412723eba2469", func := "example.com/tenure/tenure/internal/scheduler.LawS194031BWhole", spec := "lawS194031BWhole", apart := false }
def LawS194031BWholeSaid : Prop := lawS194031BWholeRow.holds Yba.pinned (OpenSpec.ofChange lawS194031BWholeSpec)

/-- ITS FALSE NEIGHBOUR: 'it returns false'. Refute it at one input. -/
def lawS194031BWholeWrong : ChangeSpec := { name := "lawS194031BWhole", fn := fun _ => fun
  | [d1, d2, d3] => { results := [.lit (.bool false)], args := [d1, d2, d3] }
  | _ => none }
def LawS194031BWholeWrongFalsely : Prop := lawS194031BWholeRow.holds Yba.pinned (OpenSpec.ofChange lawS194031BWholeWrong)

end Rows
end Go.Proofs.Ybulkexnjg
