/-
  No cell of these rows narrows 'for every input' (looked for: loops, veiled, ifaces, maps, wideKeys, modest, calm, conditions, laid).
  DERIVED. THE GIVEN ROWS OF THIS SEAT. 8 by the template 'for every input the law returns true; each argument reads behind the call as it read before'; 0 by the template 'total and deterministic' (their statements: Qxb6601254aTotals.lean).
  GIVEN WITH THE SEED: the statements are not yours to turn. If you find one false, say at which input.
  Laid BY PROGRAM, IN A SANDBOX (cutbox-rows.mjs): the forced cells as the released guide's own fill.sh prints them over the translation 7398418d86c96645… (all of the seat's roots in one cut). By AI agents, Wed Nov 11 2026. No macro, syntax, notation, axiom, sorry.
-/
import Derived.Test.Qxb6601254aChecked
import GoSem.Claim
import GoSem.ClaimJoined
import GoSem.ClaimMapViews
import Derived.JoinedTies
import Derived.KernelRfl
namespace Go.Proofs.Qxb6601254a
/- THE CELL 'sum', in the pinned program and in every row, IS THE sha256 OF THE DUMP (.gsa) THAT Qxb6601254aProg.lean LOADS. Nothing in Lean hashes anything: it is a label: what it is worth is what the hold of that sum in a sandbox is worth. -/
noncomputable def Try.pinned : Pinned := { name := "qxb6601254a", sum := "7398418d86c96645661ee5be946068d5117c57082ab6c3844d8033c1e71386e8", checked := Try.checked }
namespace Rows
def none {H : Type} : Left H := { results := [], args := [] }

/-- 'zzlaws_patterns_b1.FnBeneathMatchesComponentModel': WHATEVER THE INPUT: true; the input reads as it did. -/
def fnBeneathMatchesComponentModelSpec : ChangeSpec := { name := "fnBeneathMatchesComponentModel", fn := fun _ => fun
  | [d1, d2] => { results := [.lit (.bool true)], args := [d1, d2] }
  | _ => none }
def fnBeneathMatchesComponentModelRow : OpenClaim := { program := "qxb6601254a", sum := "7398418d86c96645661ee5be946068d5117c57082ab6c3844d8033c1e71386e8", func := "example.com/sealkeep/sealkeep/zzlaws_patterns_b1.FnBeneathMatchesComponentModel", spec := "fnBeneathMatchesComponentModel", apart := false }
def FnBeneathMatchesComponentModelSaid : Prop := fnBeneathMatchesComponentModelRow.holds Try.pinned (OpenSpec.ofChange fnBeneathMatchesComponentModelSpec)

/-- ITS FALSE NEIGHBOUR: 'it returns false'. Refute it at one input. -/
def fnBeneathMatchesComponentModelWrong : ChangeSpec := { name := "fnBeneathMatchesComponentModel", fn := fun _ => fun
  | [d1, d2] => { results := [.lit (.bool false)], args := [d1, d2] }
  | _ => none }
def FnBeneathMatchesComponentModelWrongFalsely : Prop := fnBeneathMatchesComponentModelRow.holds Try.pinned (OpenSpec.ofChange fnBeneathMatchesComponentModelWrong)

/-- 'zzlaws_patterns_b1.FnBeneathTransitive': WHATEVER THE INPUT: true; the input reads as it did. -/
def fnBeneathTransitiveSpec : ChangeSpec := { name := "fnBeneathTransitive", fn := fun _ => fun
  | [d1, d2, d3] => { results := [.lit (.bool true)], args := [d1, d2, d3] }
  | _ => none }
def fnBeneathTransitiveRow : OpenClaim := { program := "qxb6601254a", sum := "7398418d86c96645661ee5be946068d5117c57082ab6c3844d8033c1e71386e8", func := "example.com/sealkeep/sealkeep/zzlaws_patterns_b1.FnBeneathTransitive", spec := "fnBeneathTransitive", apart := false }
def FnBeneathTransitiveSaid : Prop := fnBeneathTransitiveRow.holds Try.pinned (OpenSpec.ofChange fnBeneathTransitiveSpec)

/-- ITS FALSE NEIGHBOUR: 'it returns false'. Refute it at one input. -/
def fnBeneathTransitiveWrong : ChangeSpec := { name := "fnBeneathTransitive", fn := fun _ => fun
  | [d1, d2, d3] => { results := [.lit (.bool false)], args := [d1, d2, d3] }
  | _ => none }
def FnBeneathTransitiveWrongFalsely : Prop := fnBeneathTransitiveRow.holds Try.pinned (OpenSpec.ofChange fnBeneathTransitiveWrong)

/-- 'zzlaws_patterns_b1.FnBeneathAsymmetric': WHATEVER THE INPUT: true; the input reads as it did. -/
def fnBeneathAsymmetricSpec : ChangeSpec := { name := "fnBeneathAsymmetric", fn := fun _ => fun
  | [d1, d2] => { results := [.lit (.bool true)], args := [d1, d2] }
  | _ => none }
def fnBeneathAsymmetricRow : OpenClaim := { program := "qxb6601254a", sum := "7398418d86c96645661ee5be946068d5117c57082ab6c3844d8033c1e71386e8", func := "example.com/sealkeep/sealkeep/zzlaws_patterns_b1.FnBeneathAsymmetric", spec := "fnBeneathAsymmetric", apart := false }
def FnBeneathAsymmetricSaid : Prop := fnBeneathAsymmetricRow.holds Try.pinned (OpenSpec.ofChange fnBeneathAsymmetricSpec)

/-- ITS FALSE NEIGHBOUR: 'it returns false'. Refute it at one input. -/
def fnBeneathAsymmetricWrong : ChangeSpec := { name := "fnBeneathAsymmetric", fn := fun _ => fun
  | [d1, d2] => { results := [.lit (.bool false)], args := [d1, d2] }
  | _ => none }
def FnBeneathAsymmetricWrongFalsely : Prop := fnBeneathAsymmetricRow.holds Try.pinned (OpenSpec.ofChange fnBeneathAsymmetricWrong)

/-- 'zzlaws_patterns_b1.FnIncludedMatchesLastMatchModel': WHATEVER THE INPUT: true; the input reads as it did. -/
def fnIncludedMatchesLastMatchModelSpec : ChangeSpec := { name := "fnIncludedMatchesLastMatchModel", fn := fun _ => fun
  | [d1, d2] => { results := [.lit (.bool true)], args := [d1, d2] }
  | _ => none }
def fnIncludedMatchesLastMatchModelRow : OpenClaim := { program := "qxb6601254a", sum := "7398418d86c96645661ee5be946068d5117c57082ab6c3844d8033c1e71386e8", func := "example.com/sealkeep/sealkeep/zzlaws_patterns_b1.FnIncludedMatchesLastMatchModel", spec := "fnIncludedMatchesLastMatchModel", apart := false }
def FnIncludedMatchesLastMatchModelSaid : Prop := fnIncludedMatchesLastMatchModelRow.holds Try.pinned (OpenSpec.ofChange fnIncludedMatchesLastMatchModelSpec)

/-- ITS FALSE NEIGHBOUR: 'it returns false'. Refute it at one input. -/
def fnIncludedMatchesLastMatchModelWrong : ChangeSpec := { name := "fnIncludedMatchesLastMatchModel", fn := fun _ => fun
  | [d1, d2] => { results := [.lit (.bool false)], args := [d1, d2] }
  | _ => none }
def FnIncludedMatchesLastMatchModelWrongFalsely : Prop := fnIncludedMatchesLastMatchModelRow.holds Try.pinned (OpenSpec.ofChange fnIncludedMatchesLastMatchModelWrong)

/-- 'zzlaws_patterns_b1.FnIncludedLastAppendedDecides': WHATEVER THE INPUT: true; the input reads as it did. -/
def fnIncludedLastAppendedDecidesSpec : ChangeSpec := { name := "fnIncludedLastAppendedDecides", fn := fun _ => fun
  | [d1, d2, d3, d4] => { results := [.lit (.bool true)], args := [d1, d2, d3, d4] }
  | _ => none }
def fnIncludedLastAppendedDecidesRow : OpenClaim := { program := "qxb6601254a", sum := "7398418d86c96645661ee5be946068d5117c57082ab6c3844d8033c1e71386e8", func := "example.com/sealkeep/sealkeep/zzlaws_patterns_b1.FnIncludedLastAppendedDecides", spec := "fnIncludedLastAppendedDecides", apart := false }
def FnIncludedLastAppendedDecidesSaid : Prop := fnIncludedLastAppendedDecidesRow.holds Try.pinned (OpenSpec.ofChange fnIncludedLastAppendedDecidesSpec)

/-- ITS FALSE NEIGHBOUR: 'it returns false'. Refute it at one input. -/
def fnIncludedLastAppendedDecidesWrong : ChangeSpec := { name := "fnIncludedLastAppendedDecides", fn := fun _ => fun
  | [d1, d2, d3, d4] => { results := [.lit (.bool false)], args := [d1, d2, d3, d4] }
  | _ => none }
def FnIncludedLastAppendedDecidesWrongFalsely : Prop := fnIncludedLastAppendedDecidesRow.holds Try.pinned (OpenSpec.ofChange fnIncludedLastAppendedDecidesWrong)

/-- 'zzlaws_patterns_b1.FnIncludesBeneathMatchesWitnessModel': WHATEVER THE INPUT: true; the input reads as it did. -/
def fnIncludesBeneathMatchesWitnessModelSpec : ChangeSpec := { name := "fnIncludesBeneathMatchesWitnessModel", fn := fun _ => fun
  | [d1, d2] => { results := [.lit (.bool true)], args := [d1, d2] }
  | _ => none }
def fnIncludesBeneathMatchesWitnessModelRow : OpenClaim := { program := "qxb6601254a", sum := "7398418d86c96645661ee5be946068d5117c57082ab6c3844d8033c1e71386e8", func := "example.com/sealkeep/sealkeep/zzlaws_patterns_b1.FnIncludesBeneathMatchesWitnessModel", spec := "fnIncludesBeneathMatchesWitnessModel", apart := false }
def FnIncludesBeneathMatchesWitnessModelSaid : Prop := fnIncludesBeneathMatchesWitnessModelRow.holds Try.pinned (OpenSpec.ofChange fnIncludesBeneathMatchesWitnessModelSpec)

/-- ITS FALSE NEIGHBOUR: 'it returns false'. Refute it at one input. -/
def fnIncludesBeneathMatchesWitnessModelWrong : ChangeSpec := { name := "fnIncludesBeneathMatchesWitnessModel", fn := fun _ => fun
  | [d1, d2] => { results := [.lit (.bool false)], args := [d1, d2] }
  | _ => none }
def FnIncludesBeneathMatchesWitnessModelWrongFalsely : Prop := fnIncludesBeneathMatchesWitnessModelRow.holds Try.pinned (OpenSpec.ofChange fnIncludesBeneathMatchesWitnessModelWrong)

/-- 'zzlaws_patterns_b1.FnIncludesBeneathSoundForAnyPath': WHATEVER THE INPUT: true; the input reads as it did. -/
def fnIncludesBeneathSoundForAnyPathSpec : ChangeSpec := { name := "fnIncludesBeneathSoundForAnyPath", fn := fun _ => fun
  | [d1, d2, d3] => { results := [.lit (.bool true)], args := [d1, d2, d3] }
  | _ => none }
def fnIncludesBeneathSoundForAnyPathRow : OpenClaim := { program := "qxb6601254a", sum := "7398418d86c96645661ee5be946068d5117c57082ab6c3844d8033c1e71386e8", func := "example.com/sealkeep/sealkeep/zzlaws_patterns_b1.FnIncludesBeneathSoundForAnyPath", spec := "fnIncludesBeneathSoundForAnyPath", apart := false }
def FnIncludesBeneathSoundForAnyPathSaid : Prop := fnIncludesBeneathSoundForAnyPathRow.holds Try.pinned (OpenSpec.ofChange fnIncludesBeneathSoundForAnyPathSpec)

/-- ITS FALSE NEIGHBOUR: 'it returns false'. Refute it at one input. -/
def fnIncludesBeneathSoundForAnyPathWrong : ChangeSpec := { name := "fnIncludesBeneathSoundForAnyPath", fn := fun _ => fun
  | [d1, d2, d3] => { results := [.lit (.bool false)], args := [d1, d2, d3] }
  | _ => none }
def FnIncludesBeneathSoundForAnyPathWrongFalsely : Prop := fnIncludesBeneathSoundForAnyPathRow.holds Try.pinned (OpenSpec.ofChange fnIncludesBeneathSoundForAnyPathWrong)

/-- 'zzlaws_patterns_b1.FnIncludesBeneathRefusedUnderLastExclude': WHATEVER THE INPUT: true; the input reads as it did. -/
def fnIncludesBeneathRefusedUnderLastExcludeSpec : ChangeSpec := { name := "fnIncludesBeneathRefusedUnderLastExclude", fn := fun _ => fun
  | [d1, d2, d3, d4] => { results := [.lit (.bool true)], args := [d1, d2, d3, d4] }
  | _ => none }
def fnIncludesBeneathRefusedUnderLastExcludeRow : OpenClaim := { program := "qxb6601254a", sum := "7398418d86c96645661ee5be946068d5117c57082ab6c3844d8033c1e71386e8", func := "example.com/sealkeep/sealkeep/zzlaws_patterns_b1.FnIncludesBeneathRefusedUnderLastExclude", spec := "fnIncludesBeneathRefusedUnderLastExclude", apart := false }
def FnIncludesBeneathRefusedUnderLastExcludeSaid : Prop := fnIncludesBeneathRefusedUnderLastExcludeRow.holds Try.pinned (OpenSpec.ofChange fnIncludesBeneathRefusedUnderLastExcludeSpec)

/-- ITS FALSE NEIGHBOUR: 'it returns false'. Refute it at one input. -/
def fnIncludesBeneathRefusedUnderLastExcludeWrong : ChangeSpec := { name := "fnIncludesBeneathRefusedUnderLastExclude", fn := fun _ => fun
  | [d1, d2, d3, d4] => { results := [.lit (.bool false)], args := [d1, d2, d3, d4] }
  | _ => none }
def FnIncludesBeneathRefusedUnderLastExcludeWrongFalsely : Prop := fnIncludesBeneathRefusedUnderLastExcludeRow.holds Try.pinned (OpenSpec.ofChange fnIncludesBeneathRefusedUnderLastExcludeWrong)

end Rows
end Go.Proofs.Qxb6601254a
