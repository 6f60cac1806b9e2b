/-
  No cell of these rows narrows 'for every input' (looked for: loops, veiled, ifaces, maps, wideKeys, modest, calm, conditions, laid).
  DERIVED. THE GIVEN ROWS OF THIS SEAT. 6 by the template 'for every input the law returns true; each argument reads behind the call as it read before'; 0 by the template 'total and deterministic' (their statements: YbulkbnemTotals.lean).
  GIVEN WITH THE SEED: the statements are not yours to turn. If you find one false, say at which input.
  Laid BY PROGRAM, IN A SANDBOX (cutbox-rows.mjs): the forced cells as the released guide's own fill.sh prints them over the translation 87459f8beb665400… (all of the seat's roots in one cut). By AI agents, Wed Nov 11 2026. No macro, syntax, notation, axiom, sorry.
-/
import Derived.Test.YbulkbnemChecked
import GoSem.Claim
import GoSem.ClaimJoined
import GoSem.ClaimMapViews
import Derived.JoinedTies
import Derived.KernelRfl
namespace Go.Proofs.Ybulkbnem
/- THE CELL 'sum', in the pinned program and in every row, IS THE sha256 OF THE DUMP (.gsa) THAT YbulkbnemProg.lean LOADS. Nothing in Lean hashes anything: it is a label: what it is worth is what the hold of that sum in a sandbox is worth. -/
noncomputable def Yba.pinned : Pinned := { name := "ybulkbnem", sum := "87459f8beb665400ea14339ffaaf91c81e6ce5dbe05c639a681d1bb5793e853a", checked := Yba.checked }
namespace Rows
def none {H : Type} : Left H := { results := [], args := [] }

/-- 'muster.LawS3197ANext': WHATEVER THE INPUT: true; the input reads as it did. -/
def lawS3197ANextSpec : ChangeSpec := { name := "lawS3197ANext", fn := fun _ => fun
  | [d] => { results := [.lit (.bool true)], args := [d] }
  | _ => none }
def lawS3197ANextRow : OpenClaim := { program := "ybulkbnem", sum := "87459f8beb665400ea14339ffaaf91c81e6ce5dbe05c639a681d1bb5793e853a", func := "example.com/muster/muster.LawS3197ANext", spec := "lawS3197ANext", plainKeys := false, apart := false }
def LawS3197ANextSaid : Prop := lawS3197ANextRow.holds Yba.pinned (OpenSpec.ofChange lawS3197ANextSpec)

/-- ITS FALSE NEIGHBOUR: 'it returns false'. Refute it at one input. -/
def lawS3197ANextWrong : ChangeSpec := { name := "lawS3197ANext", fn := fun _ => fun
  | [d] => { results := [.lit (.bool false)], args := [d] }
  | _ => none }
def LawS3197ANextWrongFalsely : Prop := lawS3197ANextRow.holds Yba.pinned (OpenSpec.ofChange lawS3197ANextWrong)

/-- 'muster.LawS3197ASequence': WHATEVER THE INPUT: true; the input reads as it did. -/
def lawS3197ASequenceSpec : ChangeSpec := { name := "lawS3197ASequence", fn := fun _ => fun
  | [d1, d2, d3, d4] => { results := [.lit (.bool true)], args := [d1, d2, d3, d4] }
  | _ => none }
def lawS3197ASequenceRow : OpenClaim := { program := "ybulkbnem", sum := "87459f8beb665400ea14339ffaaf91c81e6ce5dbe05c639a681d1bb5793e853a", func := "example.com/muster/muster.LawS3197ASequence", spec := "lawS3197ASequence", plainKeys := false, apart := false }
def LawS3197ASequenceSaid : Prop := lawS3197ASequenceRow.holds Yba.pinned (OpenSpec.ofChange lawS3197ASequenceSpec)

/-- ITS FALSE NEIGHBOUR: 'it returns false'. Refute it at one input. -/
def lawS3197ASequenceWrong : ChangeSpec := { name := "lawS3197ASequence", fn := fun _ => fun
  | [d1, d2, d3, d4] => { results := [.lit (.bool false)], args := [d1, d2, d3, d4] }
  | _ => none }
def LawS3197ASequenceWrongFalsely : Prop := lawS3197ASequenceRow.holds Yba.pinned (OpenSpec.ofChange lawS3197ASequenceWrong)

/-- 'muster.LawS3197BCopy': WHATEVER THE INPUT: true; the input reads as it did. -/
def lawS3197BCopySpec : ChangeSpec := { name := "lawS3197BCopy", fn := fun _ => fun
  | [d] => { results := [.lit (.bool true)], args := [d] }
  | _ => none }
def lawS3197BCopyRow : OpenClaim := { program := "ybulkbnem", sum := "87459f8beb665400ea14339ffaaf91c81e6ce5dbe05c639a681d1bb5793e853a", func := "example.com/muster/muster.LawS3197BCopy", spec := "lawS3197BCopy", inPlace := ["maps.clone"], plainKeys := false, apart := false }
def LawS3197BCopySaid : Prop := lawS3197BCopyRow.holds Yba.pinned (OpenSpec.ofChange lawS3197BCopySpec)

/-- ITS FALSE NEIGHBOUR: 'it returns false'. Refute it at one input. -/
def lawS3197BCopyWrong : ChangeSpec := { name := "lawS3197BCopy", fn := fun _ => fun
  | [d] => { results := [.lit (.bool false)], args := [d] }
  | _ => none }
def LawS3197BCopyWrongFalsely : Prop := lawS3197BCopyRow.holds Yba.pinned (OpenSpec.ofChange lawS3197BCopyWrong)

/-- 'muster.LawS3197BApart': WHATEVER THE INPUT: true; the input reads as it did. -/
def lawS3197BApartSpec : ChangeSpec := { name := "lawS3197BApart", fn := fun _ => fun
  | [d] => { results := [.lit (.bool true)], args := [d] }
  | _ => none }
def lawS3197BApartRow : OpenClaim := { program := "ybulkbnem", sum := "87459f8beb665400ea14339ffaaf91c81e6ce5dbe05c639a681d1bb5793e853a", func := "example.com/muster/muster.LawS3197BApart", spec := "lawS3197BApart", inPlace := ["maps.clone"], plainKeys := false, apart := false }
def LawS3197BApartSaid : Prop := lawS3197BApartRow.holds Yba.pinned (OpenSpec.ofChange lawS3197BApartSpec)

/-- ITS FALSE NEIGHBOUR: 'it returns false'. Refute it at one input. -/
def lawS3197BApartWrong : ChangeSpec := { name := "lawS3197BApart", fn := fun _ => fun
  | [d] => { results := [.lit (.bool false)], args := [d] }
  | _ => none }
def LawS3197BApartWrongFalsely : Prop := lawS3197BApartRow.holds Yba.pinned (OpenSpec.ofChange lawS3197BApartWrong)

/-- 'muster.LawS3197CRecipients': WHATEVER THE INPUT: true; the input reads as it did. -/
def lawS3197CRecipientsSpec : ChangeSpec := { name := "lawS3197CRecipients", fn := fun _ => fun
  | [d1, d2, d3, d4, d5] => { results := [.lit (.bool true)], args := [d1, d2, d3, d4, d5] }
  | _ => none }
def lawS3197CRecipientsRow : OpenClaim := { program := "ybulkbnem", sum := "87459f8beb665400ea14339ffaaf91c81e6ce5dbe05c639a681d1bb5793e853a", func := "example.com/muster/muster.LawS3197CRecipients", spec := "lawS3197CRecipients", plainKeys := false, apart := false }
def LawS3197CRecipientsSaid : Prop := lawS3197CRecipientsRow.holds Yba.pinned (OpenSpec.ofChange lawS3197CRecipientsSpec)

/-- ITS FALSE NEIGHBOUR: 'it returns false'. Refute it at one input. -/
def lawS3197CRecipientsWrong : ChangeSpec := { name := "lawS3197CRecipients", fn := fun _ => fun
  | [d1, d2, d3, d4, d5] => { results := [.lit (.bool false)], args := [d1, d2, d3, d4, d5] }
  | _ => none }
def LawS3197CRecipientsWrongFalsely : Prop := lawS3197CRecipientsRow.holds Yba.pinned (OpenSpec.ofChange lawS3197CRecipientsWrong)

/-- 'muster.LawS3197CSignedToOthers': WHATEVER THE INPUT: true; the input reads as it did. -/
def lawS3197CSignedToOthersSpec : ChangeSpec := { name := "lawS3197CSignedToOthers", fn := fun _ => fun
  | [d1, d2, d3] => { results := [.lit (.bool true)], args := [d1, d2, d3] }
  | _ => none }
def lawS3197CSignedToOthersRow : OpenClaim := { program := "ybulkbnem", sum := "87459f8beb665400ea14339ffaaf91c81e6ce5dbe05c639a681d1bb5793e853a", func := "example.com/muster/muster.LawS3197CSignedToOthers", spec := "lawS3197CSignedToOthers", plainKeys := false, apart := false }
def LawS3197CSignedToOthersSaid : Prop := lawS3197CSignedToOthersRow.holds Yba.pinned (OpenSpec.ofChange lawS3197CSignedToOthersSpec)

/-- ITS FALSE NEIGHBOUR: 'it returns false'. Refute it at one input. -/
def lawS3197CSignedToOthersWrong : ChangeSpec := { name := "lawS3197CSignedToOthers", fn := fun _ => fun
  | [d1, d2, d3] => { results := [.lit (.bool false)], args := [d1, d2, d3] }
  | _ => none }
def LawS3197CSignedToOthersWrongFalsely : Prop := lawS3197CSignedToOthersRow.holds Yba.pinned (OpenSpec.ofChange lawS3197CSignedToOthersWrong)

end Rows
end Go.Proofs.Ybulkbnem
