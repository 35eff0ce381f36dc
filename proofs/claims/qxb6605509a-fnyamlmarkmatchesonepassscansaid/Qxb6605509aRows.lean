/-
  No cell of these rows narrows 'for every input' (looked for: loops, veiled, ifaces, maps, wideKeys, modest, calm, conditions, laid).
  DERIVED. THE GIVEN ROWS OF THIS SEAT. 3 by the template 'for every input the law returns true; each argument reads behind the call as it read before'; 0 by the template 'total and deterministic' (their statements: Qxb6605509aTotals.lean).
  GIVEN WITH THE SEED: the statements are not yours to turn. If you find one false, say at which input.
  Laid BY PROGRAM, IN A SANDBOX (cutbox-rows.mjs): the forced cells as the released guide's own fill.sh prints them over the translation ab8ce0b10e05120f… (all of the seat's roots in one cut). By AI agents, Wed Nov 11 2026. No macro, syntax, notation, axiom, sorry.
-/
import Derived.Test.Qxb6605509aChecked
import GoSem.Claim
import GoSem.ClaimJoined
import GoSem.ClaimMapViews
import Derived.JoinedTies
import Derived.KernelRfl
namespace Go.Proofs.Qxb6605509a
/- THE CELL 'sum', in the pinned program and in every row, IS THE sha256 OF THE DUMP (.gsa) THAT Qxb6605509aProg.lean LOADS. Nothing in Lean hashes anything: it is a label: what it is worth is what the hold of that sum in a sandbox is worth. -/
noncomputable def Try.pinned : Pinned := { name := "qxb6605509a", sum := "ab8ce0b10e05120ffb513590c63847b458c839fe4dc89f6edfae5a11881bebc2", checked := Try.checked }
namespace Rows
def none {H : Type} : Left H := { results := [], args := [] }

/-- 'zzlaws_root_b1.FnCostOfEqualsPerByteWeights': WHATEVER THE INPUT: true; the input reads as it did. -/
def fnCostOfEqualsPerByteWeightsSpec : ChangeSpec := { name := "fnCostOfEqualsPerByteWeights", fn := fun _ => fun
  | [d] => { results := [.lit (.bool true)], args := [d] }
  | _ => none }
def fnCostOfEqualsPerByteWeightsRow : OpenClaim := { program := "qxb6605509a", sum := "ab8ce0b10e05120ffb513590c63847b458c839fe4dc89f6edfae5a11881bebc2", func := "example.com/marquetry/marquetry/zzlaws_root_b1.FnCostOfEqualsPerByteWeights", spec := "fnCostOfEqualsPerByteWeights", inPlace := ["internal/bytealg.IndexByteString", "internal/bytealg.IndexString"], named := ["internal/bytealg.MaxLen"], apart := false }
def FnCostOfEqualsPerByteWeightsSaid : Prop := fnCostOfEqualsPerByteWeightsRow.holds Try.pinned (OpenSpec.ofChange fnCostOfEqualsPerByteWeightsSpec)

/-- ITS FALSE NEIGHBOUR: 'it returns false'. Refute it at one input. -/
def fnCostOfEqualsPerByteWeightsWrong : ChangeSpec := { name := "fnCostOfEqualsPerByteWeights", fn := fun _ => fun
  | [d] => { results := [.lit (.bool false)], args := [d] }
  | _ => none }
def FnCostOfEqualsPerByteWeightsWrongFalsely : Prop := fnCostOfEqualsPerByteWeightsRow.holds Try.pinned (OpenSpec.ofChange fnCostOfEqualsPerByteWeightsWrong)

/-- 'zzlaws_root_b1.FnCostOfConcatSubadditive': WHATEVER THE INPUT: true; the input reads as it did. -/
def fnCostOfConcatSubadditiveSpec : ChangeSpec := { name := "fnCostOfConcatSubadditive", fn := fun _ => fun
  | [d1, d2] => { results := [.lit (.bool true)], args := [d1, d2] }
  | _ => none }
def fnCostOfConcatSubadditiveRow : OpenClaim := { program := "qxb6605509a", sum := "ab8ce0b10e05120ffb513590c63847b458c839fe4dc89f6edfae5a11881bebc2", func := "example.com/marquetry/marquetry/zzlaws_root_b1.FnCostOfConcatSubadditive", spec := "fnCostOfConcatSubadditive", inPlace := ["internal/bytealg.IndexByteString", "internal/bytealg.IndexString"], named := ["internal/bytealg.MaxLen"], apart := false }
def FnCostOfConcatSubadditiveSaid : Prop := fnCostOfConcatSubadditiveRow.holds Try.pinned (OpenSpec.ofChange fnCostOfConcatSubadditiveSpec)

/-- ITS FALSE NEIGHBOUR: 'it returns false'. Refute it at one input. -/
def fnCostOfConcatSubadditiveWrong : ChangeSpec := { name := "fnCostOfConcatSubadditive", fn := fun _ => fun
  | [d1, d2] => { results := [.lit (.bool false)], args := [d1, d2] }
  | _ => none }
def FnCostOfConcatSubadditiveWrongFalsely : Prop := fnCostOfConcatSubadditiveRow.holds Try.pinned (OpenSpec.ofChange fnCostOfConcatSubadditiveWrong)

/-- 'zzlaws_root_b1.FnYamlMarkMatchesOnePassScan': WHATEVER THE INPUT: true; the input reads as it did. -/
def fnYamlMarkMatchesOnePassScanSpec : ChangeSpec := { name := "fnYamlMarkMatchesOnePassScan", fn := fun _ => fun
  | [d1, d2] => { results := [.lit (.bool true)], args := [d1, d2] }
  | _ => none }
def fnYamlMarkMatchesOnePassScanRow : OpenClaim := { program := "qxb6605509a", sum := "ab8ce0b10e05120ffb513590c63847b458c839fe4dc89f6edfae5a11881bebc2", func := "example.com/marquetry/marquetry/zzlaws_root_b1.FnYamlMarkMatchesOnePassScan", spec := "fnYamlMarkMatchesOnePassScan", inPlace := ["internal/bytealg.IndexByteString", "internal/bytealg.IndexString"], named := ["internal/bytealg.MaxLen"], apart := false }
def FnYamlMarkMatchesOnePassScanSaid : Prop := fnYamlMarkMatchesOnePassScanRow.holds Try.pinned (OpenSpec.ofChange fnYamlMarkMatchesOnePassScanSpec)

/-- ITS FALSE NEIGHBOUR: 'it returns false'. Refute it at one input. -/
def fnYamlMarkMatchesOnePassScanWrong : ChangeSpec := { name := "fnYamlMarkMatchesOnePassScan", fn := fun _ => fun
  | [d1, d2] => { results := [.lit (.bool false)], args := [d1, d2] }
  | _ => none }
def FnYamlMarkMatchesOnePassScanWrongFalsely : Prop := fnYamlMarkMatchesOnePassScanRow.holds Try.pinned (OpenSpec.ofChange fnYamlMarkMatchesOnePassScanWrong)

end Rows
end Go.Proofs.Qxb6605509a
