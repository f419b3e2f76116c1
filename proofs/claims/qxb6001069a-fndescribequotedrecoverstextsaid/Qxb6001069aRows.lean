/-
  No cell of these rows narrows 'for every input' (looked for: loops, veiled, ifaces, maps, wideKeys, modest, calm, conditions, laid).
  DERIVED. THE GIVEN ROWS OF THIS SEAT. 3 by the template 'for every input the law returns true; each argument reads behind the call as it read before'; 0 by the template 'total and deterministic' (their statements: Qxb6001069aTotals.lean).
  GIVEN WITH THE SEED: the statements are not yours to turn. If you find one false, say at which input.
  Laid BY PROGRAM, IN A SANDBOX (cutbox-rows.mjs): the forced cells as the released guide's own fill.sh prints them over the translation db5c2f6c8a8611c3… (all of the seat's roots in one cut). By AI agents, Wed Nov 11 2026. No macro, syntax, notation, axiom, sorry.
-/
import Derived.Test.Qxb6001069aChecked
import GoSem.Claim
import GoSem.ClaimJoined
import GoSem.ClaimMapViews
import Derived.JoinedTies
import Derived.KernelRfl
namespace Go.Proofs.Qxb6001069a
/- THE CELL 'sum', in the pinned program and in every row, IS THE sha256 OF THE DUMP (.gsa) THAT Qxb6001069aProg.lean LOADS. Nothing in Lean hashes anything: it is a label: what it is worth is what the hold of that sum in a sandbox is worth. -/
noncomputable def Try.pinned : Pinned := { name := "qxb6001069a", sum := "db5c2f6c8a8611c3fd6af8b062a061d04e14fb0714f470100afeaf6852c49c2c", checked := Try.checked }
namespace Rows
def none {H : Type} : Left H := { results := [], args := [] }

/-- 'zzlaws_internal_rules_b1.FnDescribeFixedKindIgnoresText': WHATEVER THE INPUT: true; the input reads as it did. -/
def fnDescribeFixedKindIgnoresTextSpec : ChangeSpec := { name := "fnDescribeFixedKindIgnoresText", fn := fun _ => fun
  | [d1, d2, d3] => { results := [.lit (.bool true)], args := [d1, d2, d3] }
  | _ => none }
def fnDescribeFixedKindIgnoresTextRow : OpenClaim := { program := "qxb6001069a", sum := "db5c2f6c8a8611c3fd6af8b062a061d04e14fb0714f470100afeaf6852c49c2c", func := "example.com/stipule/zzlaws_internal_rules_b1.FnDescribeFixedKindIgnoresText", spec := "fnDescribeFixedKindIgnoresText", apart := false }
def FnDescribeFixedKindIgnoresTextSaid : Prop := fnDescribeFixedKindIgnoresTextRow.holds Try.pinned (OpenSpec.ofChange fnDescribeFixedKindIgnoresTextSpec)

/-- ITS FALSE NEIGHBOUR: 'it returns false'. Refute it at one input. -/
def fnDescribeFixedKindIgnoresTextWrong : ChangeSpec := { name := "fnDescribeFixedKindIgnoresText", fn := fun _ => fun
  | [d1, d2, d3] => { results := [.lit (.bool false)], args := [d1, d2, d3] }
  | _ => none }
def FnDescribeFixedKindIgnoresTextWrongFalsely : Prop := fnDescribeFixedKindIgnoresTextRow.holds Try.pinned (OpenSpec.ofChange fnDescribeFixedKindIgnoresTextWrong)

/-- 'zzlaws_internal_rules_b1.FnDescribeQuotedRecoversText': WHATEVER THE INPUT: true; the input reads as it did. -/
def fnDescribeQuotedRecoversTextSpec : ChangeSpec := { name := "fnDescribeQuotedRecoversText", fn := fun _ => fun
  | [d1, d2] => { results := [.lit (.bool true)], args := [d1, d2] }
  | _ => none }
def fnDescribeQuotedRecoversTextRow : OpenClaim := { program := "qxb6001069a", sum := "db5c2f6c8a8611c3fd6af8b062a061d04e14fb0714f470100afeaf6852c49c2c", func := "example.com/stipule/zzlaws_internal_rules_b1.FnDescribeQuotedRecoversText", spec := "fnDescribeQuotedRecoversText", apart := false }
def FnDescribeQuotedRecoversTextSaid : Prop := fnDescribeQuotedRecoversTextRow.holds Try.pinned (OpenSpec.ofChange fnDescribeQuotedRecoversTextSpec)

/-- ITS FALSE NEIGHBOUR: 'it returns false'. Refute it at one input. -/
def fnDescribeQuotedRecoversTextWrong : ChangeSpec := { name := "fnDescribeQuotedRecoversText", fn := fun _ => fun
  | [d1, d2] => { results := [.lit (.bool false)], args := [d1, d2] }
  | _ => none }
def FnDescribeQuotedRecoversTextWrongFalsely : Prop := fnDescribeQuotedRecoversTextRow.holds Try.pinned (OpenSpec.ofChange fnDescribeQuotedRecoversTextWrong)

/-- 'zzlaws_internal_rules_b1.FnDescribeFixedNeverMistakenForQuoted': WHATEVER THE INPUT: true; the input reads as it did. -/
def fnDescribeFixedNeverMistakenForQuotedSpec : ChangeSpec := { name := "fnDescribeFixedNeverMistakenForQuoted", fn := fun _ => fun
  | [d1, d2, d3, d4] => { results := [.lit (.bool true)], args := [d1, d2, d3, d4] }
  | _ => none }
def fnDescribeFixedNeverMistakenForQuotedRow : OpenClaim := { program := "qxb6001069a", sum := "db5c2f6c8a8611c3fd6af8b062a061d04e14fb0714f470100afeaf6852c49c2c", func := "example.com/stipule/zzlaws_internal_rules_b1.FnDescribeFixedNeverMistakenForQuoted", spec := "fnDescribeFixedNeverMistakenForQuoted", apart := false }
def FnDescribeFixedNeverMistakenForQuotedSaid : Prop := fnDescribeFixedNeverMistakenForQuotedRow.holds Try.pinned (OpenSpec.ofChange fnDescribeFixedNeverMistakenForQuotedSpec)

/-- ITS FALSE NEIGHBOUR: 'it returns false'. Refute it at one input. -/
def fnDescribeFixedNeverMistakenForQuotedWrong : ChangeSpec := { name := "fnDescribeFixedNeverMistakenForQuoted", fn := fun _ => fun
  | [d1, d2, d3, d4] => { results := [.lit (.bool false)], args := [d1, d2, d3, d4] }
  | _ => none }
def FnDescribeFixedNeverMistakenForQuotedWrongFalsely : Prop := fnDescribeFixedNeverMistakenForQuotedRow.holds Try.pinned (OpenSpec.ofChange fnDescribeFixedNeverMistakenForQuotedWrong)

end Rows
end Go.Proofs.Qxb6001069a
