/-
  No cell of these rows narrows 'for every input' (looked for: loops, veiled, ifaces, maps, wideKeys, modest, calm, conditions, laid).
  DERIVED. THE GIVEN ROWS OF THIS SEAT. 1 by the template 'for every input the law returns true; each argument reads behind the call as it read before'; 0 by the template 'total and deterministic' (their statements: YbulkbndyTotals.lean).
  GIVEN WITH THE SEED: the statements are not yours to turn. If you find one false, say at which input.
  Laid BY PROGRAM, IN A SANDBOX (cutbox-rows.mjs): the forced cells as the released guide's own fill.sh prints them over the translation 95ea26ad04b4ea48… (all of the seat's roots in one cut). By AI agents, Wed Nov 11 2026. No macro, syntax, notation, axiom, sorry.
-/
import Derived.Test.YbulkbndyChecked
import GoSem.Claim
import GoSem.ClaimJoined
import GoSem.ClaimMapViews
import Derived.JoinedTies
import Derived.KernelRfl
namespace Go.Proofs.Ybulkbndy
/- THE CELL 'sum', in the pinned program and in every row, IS THE sha256 OF THE DUMP (.gsa) THAT YbulkbndyProg.lean LOADS. Nothing in Lean hashes anything: it is a label: what it is worth is what the hold of that sum in a sandbox is worth. -/
noncomputable def Yba.pinned : Pinned := { name := "ybulkbndy", sum := "95ea26ad04b4ea485058c0c87b8a84cf811e454a05f8401be051934a0e95e04d", checked := Yba.checked }
namespace Rows
def none {H : Type} : Left H := { results := [], args := [] }

/-- 'pacmo.LawS3196CSets': WHATEVER THE INPUT: true; the input reads as it did. -/
def lawS3196CSetsSpec : ChangeSpec := { name := "lawS3196CSets", fn := fun _ => fun
  | [d1, d2, d3, d4] => { results := [.lit (.bool true)], args := [d1, d2, d3, d4] }
  | _ => none }
def lawS3196CSetsRow : OpenClaim := { program := "ybulkbndy", sum := "95ea26ad04b4ea485058c0c87b8a84cf811e454a05f8401be051934a0e95e04d", func := "example.com/pacmo/pacmo.LawS3196CSets", spec := "lawS3196CSets", plainKeys := false, apart := false }
def LawS3196CSetsSaid : Prop := lawS3196CSetsRow.holds Yba.pinned (OpenSpec.ofChange lawS3196CSetsSpec)

/-- ITS FALSE NEIGHBOUR: 'it returns false'. Refute it at one input. -/
def lawS3196CSetsWrong : ChangeSpec := { name := "lawS3196CSets", fn := fun _ => fun
  | [d1, d2, d3, d4] => { results := [.lit (.bool false)], args := [d1, d2, d3, d4] }
  | _ => none }
def LawS3196CSetsWrongFalsely : Prop := lawS3196CSetsRow.holds Yba.pinned (OpenSpec.ofChange lawS3196CSetsWrong)

end Rows
end Go.Proofs.Ybulkbndy
