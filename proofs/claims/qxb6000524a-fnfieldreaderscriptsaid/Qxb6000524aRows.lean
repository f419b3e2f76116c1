/-
  No cell of these rows narrows 'for every input' (looked for: loops, veiled, ifaces, maps, wideKeys, modest, calm, conditions, laid).
  DERIVED. THE GIVEN ROWS OF THIS SEAT. 5 by the template 'for every input the law returns true; each argument reads behind the call as it read before'; 0 by the template 'total and deterministic' (their statements: Qxb6000524aTotals.lean).
  GIVEN WITH THE SEED: the statements are not yours to turn. If you find one false, say at which input.
  Laid BY PROGRAM, IN A SANDBOX (cutbox-rows.mjs): the forced cells as the released guide's own fill.sh prints them over the translation f39c9ff5e87b04e7… (all of the seat's roots in one cut). By AI agents, Wed Nov 11 2026. No macro, syntax, notation, axiom, sorry.
-/
import Derived.Test.Qxb6000524aChecked
import GoSem.Claim
import GoSem.ClaimJoined
import GoSem.ClaimMapViews
import Derived.JoinedTies
import Derived.KernelRfl
namespace Go.Proofs.Qxb6000524a
/- THE CELL 'sum', in the pinned program and in every row, IS THE sha256 OF THE DUMP (.gsa) THAT Qxb6000524aProg.lean LOADS. Nothing in Lean hashes anything: it is a label: what it is worth is what the hold of that sum in a sandbox is worth. -/
noncomputable def Try.pinned : Pinned := { name := "qxb6000524a", sum := "f39c9ff5e87b04e7f3fe2c154aa12671c5ffa2c582242201c41cca224f31fed3", checked := Try.checked }
namespace Rows
def none {H : Type} : Left H := { results := [], args := [] }

/-- 'zzlaws_root_b1.FnCompareConverse': WHATEVER THE INPUT: true; the input reads as it did. -/
def fnCompareConverseSpec : ChangeSpec := { name := "fnCompareConverse", fn := fun _ => fun
  | [d1, d2, d3, d4] => { results := [.lit (.bool true)], args := [d1, d2, d3, d4] }
  | _ => none }
def fnCompareConverseRow : OpenClaim := { program := "qxb6000524a", sum := "f39c9ff5e87b04e7f3fe2c154aa12671c5ffa2c582242201c41cca224f31fed3", func := "example.com/beforehand/beforehand/zzlaws_root_b1.FnCompareConverse", spec := "fnCompareConverse", apart := false }
def FnCompareConverseSaid : Prop := fnCompareConverseRow.holds Try.pinned (OpenSpec.ofChange fnCompareConverseSpec)

/-- ITS FALSE NEIGHBOUR: 'it returns false'. Refute it at one input. -/
def fnCompareConverseWrong : ChangeSpec := { name := "fnCompareConverse", fn := fun _ => fun
  | [d1, d2, d3, d4] => { results := [.lit (.bool false)], args := [d1, d2, d3, d4] }
  | _ => none }
def FnCompareConverseWrongFalsely : Prop := fnCompareConverseRow.holds Try.pinned (OpenSpec.ofChange fnCompareConverseWrong)

/-- 'zzlaws_root_b1.FnCompareMatchesPointwiseModel': WHATEVER THE INPUT: true; the input reads as it did. -/
def fnCompareMatchesPointwiseModelSpec : ChangeSpec := { name := "fnCompareMatchesPointwiseModel", fn := fun _ => fun
  | [d1, d2, d3, d4] => { results := [.lit (.bool true)], args := [d1, d2, d3, d4] }
  | _ => none }
def fnCompareMatchesPointwiseModelRow : OpenClaim := { program := "qxb6000524a", sum := "f39c9ff5e87b04e7f3fe2c154aa12671c5ffa2c582242201c41cca224f31fed3", func := "example.com/beforehand/beforehand/zzlaws_root_b1.FnCompareMatchesPointwiseModel", spec := "fnCompareMatchesPointwiseModel", apart := false }
def FnCompareMatchesPointwiseModelSaid : Prop := fnCompareMatchesPointwiseModelRow.holds Try.pinned (OpenSpec.ofChange fnCompareMatchesPointwiseModelSpec)

/-- ITS FALSE NEIGHBOUR: 'it returns false'. Refute it at one input. -/
def fnCompareMatchesPointwiseModelWrong : ChangeSpec := { name := "fnCompareMatchesPointwiseModel", fn := fun _ => fun
  | [d1, d2, d3, d4] => { results := [.lit (.bool false)], args := [d1, d2, d3, d4] }
  | _ => none }
def FnCompareMatchesPointwiseModelWrongFalsely : Prop := fnCompareMatchesPointwiseModelRow.holds Try.pinned (OpenSpec.ofChange fnCompareMatchesPointwiseModelWrong)

/-- 'zzlaws_root_b1.FnCompareBeforeTransitive': WHATEVER THE INPUT: true; the input reads as it did. -/
def fnCompareBeforeTransitiveSpec : ChangeSpec := { name := "fnCompareBeforeTransitive", fn := fun _ => fun
  | [d1, d2, d3, d4, d5, d6] => { results := [.lit (.bool true)], args := [d1, d2, d3, d4, d5, d6] }
  | _ => none }
def fnCompareBeforeTransitiveRow : OpenClaim := { program := "qxb6000524a", sum := "f39c9ff5e87b04e7f3fe2c154aa12671c5ffa2c582242201c41cca224f31fed3", func := "example.com/beforehand/beforehand/zzlaws_root_b1.FnCompareBeforeTransitive", spec := "fnCompareBeforeTransitive", apart := false }
def FnCompareBeforeTransitiveSaid : Prop := fnCompareBeforeTransitiveRow.holds Try.pinned (OpenSpec.ofChange fnCompareBeforeTransitiveSpec)

/-- ITS FALSE NEIGHBOUR: 'it returns false'. Refute it at one input. -/
def fnCompareBeforeTransitiveWrong : ChangeSpec := { name := "fnCompareBeforeTransitive", fn := fun _ => fun
  | [d1, d2, d3, d4, d5, d6] => { results := [.lit (.bool false)], args := [d1, d2, d3, d4, d5, d6] }
  | _ => none }
def FnCompareBeforeTransitiveWrongFalsely : Prop := fnCompareBeforeTransitiveRow.holds Try.pinned (OpenSpec.ofChange fnCompareBeforeTransitiveWrong)

/-- 'zzlaws_root_b1.FnFieldReaderScript': WHATEVER THE INPUT: true; the input reads as it did. -/
def fnFieldReaderScriptSpec : ChangeSpec := { name := "fnFieldReaderScript", fn := fun _ => fun
  | [d1, d2] => { results := [.lit (.bool true)], args := [d1, d2] }
  | _ => none }
def fnFieldReaderScriptRow : OpenClaim := { program := "qxb6000524a", sum := "f39c9ff5e87b04e7f3fe2c154aa12671c5ffa2c582242201c41cca224f31fed3", func := "example.com/beforehand/beforehand/zzlaws_root_b1.FnFieldReaderScript", spec := "fnFieldReaderScript", apart := false }
def FnFieldReaderScriptSaid : Prop := fnFieldReaderScriptRow.holds Try.pinned (OpenSpec.ofChange fnFieldReaderScriptSpec)

/-- ITS FALSE NEIGHBOUR: 'it returns false'. Refute it at one input. -/
def fnFieldReaderScriptWrong : ChangeSpec := { name := "fnFieldReaderScript", fn := fun _ => fun
  | [d1, d2] => { results := [.lit (.bool false)], args := [d1, d2] }
  | _ => none }
def FnFieldReaderScriptWrongFalsely : Prop := fnFieldReaderScriptRow.holds Try.pinned (OpenSpec.ofChange fnFieldReaderScriptWrong)

/-- 'zzlaws_root_b1.FnFieldReaderSplitAdditive': WHATEVER THE INPUT: true; the input reads as it did. -/
def fnFieldReaderSplitAdditiveSpec : ChangeSpec := { name := "fnFieldReaderSplitAdditive", fn := fun _ => fun
  | [d1, d2, d3] => { results := [.lit (.bool true)], args := [d1, d2, d3] }
  | _ => none }
def fnFieldReaderSplitAdditiveRow : OpenClaim := { program := "qxb6000524a", sum := "f39c9ff5e87b04e7f3fe2c154aa12671c5ffa2c582242201c41cca224f31fed3", func := "example.com/beforehand/beforehand/zzlaws_root_b1.FnFieldReaderSplitAdditive", spec := "fnFieldReaderSplitAdditive", apart := false }
def FnFieldReaderSplitAdditiveSaid : Prop := fnFieldReaderSplitAdditiveRow.holds Try.pinned (OpenSpec.ofChange fnFieldReaderSplitAdditiveSpec)

/-- ITS FALSE NEIGHBOUR: 'it returns false'. Refute it at one input. -/
def fnFieldReaderSplitAdditiveWrong : ChangeSpec := { name := "fnFieldReaderSplitAdditive", fn := fun _ => fun
  | [d1, d2, d3] => { results := [.lit (.bool false)], args := [d1, d2, d3] }
  | _ => none }
def FnFieldReaderSplitAdditiveWrongFalsely : Prop := fnFieldReaderSplitAdditiveRow.holds Try.pinned (OpenSpec.ofChange fnFieldReaderSplitAdditiveWrong)

end Rows
end Go.Proofs.Qxb6000524a
