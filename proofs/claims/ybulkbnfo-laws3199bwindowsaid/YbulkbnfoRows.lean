/-
  No cell of these rows narrows 'for every input' (looked for: loops, veiled, ifaces, maps, wideKeys, modest, calm, conditions, laid).
  DERIVED. THE GIVEN ROWS OF THIS SEAT. 1 by the template 'for every input the law returns true; each argument reads behind the call as it read before'; 0 by the template 'total and deterministic' (their statements: YbulkbnfoTotals.lean).
  GIVEN WITH THE SEED: the statements are not yours to turn. If you find one false, say at which input.
  Laid BY PROGRAM, IN A SANDBOX (cutbox-rows.mjs): the forced cells as the released guide's own fill.sh prints them over the translation fdbcc1270b6b3c37… (all of the seat's roots in one cut). By AI agents, Wed Nov 11 2026. No macro, syntax, notation, axiom, sorry.
-/
import Derived.Test.YbulkbnfoChecked
import GoSem.Claim
import GoSem.ClaimJoined
import GoSem.ClaimMapViews
import Derived.JoinedTies
import Derived.KernelRfl
namespace Go.Proofs.Ybulkbnfo
/- THE CELL 'sum', in the pinned program and in every row, IS THE sha256 OF THE DUMP (.gsa) THAT YbulkbnfoProg.lean LOADS. Nothing in Lean hashes anything: it is a label: what it is worth is what the hold of that sum in a sandbox is worth. -/
noncomputable def Yba.pinned : Pinned := { name := "ybulkbnfo", sum := "fdbcc1270b6b3c3725bdde0e725716cbc65c2f26f2cb364a8ad6537061438b96", checked := Yba.checked }
namespace Rows
def none {H : Type} : Left H := { results := [], args := [] }

/-- 'jobs.LawS3199BWindow': WHATEVER THE INPUT: true; the input reads as it did. -/
def lawS3199BWindowSpec : ChangeSpec := { name := "lawS3199BWindow", fn := fun _ => fun
  | [d1, d2] => { results := [.lit (.bool true)], args := [d1, d2] }
  | _ => none }
def lawS3199BWindowRow : OpenClaim := { program := "ybulkbnfo", sum := "fdbcc1270b6b3c3725bdde0e725716cbc65c2f26f2cb364a8ad6537061438b96", func := "example.com/hailmesh/hailmesh/jobs.LawS3199BWindow", spec := "lawS3199BWindow", apart := false }
def LawS3199BWindowSaid : Prop := lawS3199BWindowRow.holds Yba.pinned (OpenSpec.ofChange lawS3199BWindowSpec)

/-- ITS FALSE NEIGHBOUR: 'it returns false'. Refute it at one input. -/
def lawS3199BWindowWrong : ChangeSpec := { name := "lawS3199BWindow", fn := fun _ => fun
  | [d1, d2] => { results := [.lit (.bool false)], args := [d1, d2] }
  | _ => none }
def LawS3199BWindowWrongFalsely : Prop := lawS3199BWindowRow.holds Yba.pinned (OpenSpec.ofChange lawS3199BWindowWrong)

end Rows
end Go.Proofs.Ybulkbnfo
