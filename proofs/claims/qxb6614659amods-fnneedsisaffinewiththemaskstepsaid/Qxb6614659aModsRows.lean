/-
  No cell of these rows narrows 'for every input' (looked for: loops, veiled, ifaces, maps, wideKeys, modest, calm, conditions, laid).
  DERIVED. THE GIVEN ROWS OF THIS SEAT. 3 by the template 'for every input the law returns true; each argument reads behind the call as it read before'; 0 by the template 'total and deterministic' (their statements: Qxb6614659aModsTotals.lean).
  GIVEN WITH THE SEED: the statements are not yours to turn. If you find one false, say at which input.
  Laid BY PROGRAM, IN A SANDBOX (cutbox-rows.mjs): the forced cells as the released guide's own fill.sh prints them over the translation bc2d2c6a50792380… (all of the seat's roots in one cut). By AI agents, Wed Nov 11 2026. No macro, syntax, notation, axiom, sorry.
-/
import Derived.Test.Qxb6614659aModsChecked
import GoSem.Claim
import GoSem.ClaimJoined
import GoSem.ClaimMapViews
import Derived.JoinedTies
import Derived.KernelRfl
namespace Go.Proofs.Qxb6614659aMods
/- THE CELL 'sum', in the pinned program and in every row, IS THE sha256 OF THE DUMP (.gsa) THAT Qxb6614659aModsProg.lean LOADS. Nothing in Lean hashes anything: it is a label: what it is worth is what the hold of that sum in a sandbox is worth. -/
noncomputable def Trym.pinned : Pinned := { name := "qxb6614659amods", sum := "bc2d2c6a507923808a2235f5359113c440d2173568cfa134657e709e28b91261", checked := Trym.checked }
namespace Rows
def none {H : Type} : Left H := { results := [], args := [] }

/-- 'zzlaws_config_b1.FnSecretMaskIsOneForAllSecrets': WHATEVER THE INPUT: true; the input reads as it did. -/
def fnSecretMaskIsOneForAllSecretsSpec : ChangeSpec := { name := "fnSecretMaskIsOneForAllSecrets", fn := fun _ => fun
  | [d1, d2] => { results := [.lit (.bool true)], args := [d1, d2] }
  | _ => none }
def fnSecretMaskIsOneForAllSecretsRow : OpenClaim := { program := "qxb6614659amods", sum := "bc2d2c6a507923808a2235f5359113c440d2173568cfa134657e709e28b91261", func := "example.com/failoverd/failoverd/zzlaws_config_b1.FnSecretMaskIsOneForAllSecrets", spec := "fnSecretMaskIsOneForAllSecrets", make := .lifted ["publicsums"], apart := false }
def FnSecretMaskIsOneForAllSecretsSaid : Prop := fnSecretMaskIsOneForAllSecretsRow.holds Trym.pinned (OpenSpec.ofChange fnSecretMaskIsOneForAllSecretsSpec)

/-- ITS FALSE NEIGHBOUR: 'it returns false'. Refute it at one input. -/
def fnSecretMaskIsOneForAllSecretsWrong : ChangeSpec := { name := "fnSecretMaskIsOneForAllSecrets", fn := fun _ => fun
  | [d1, d2] => { results := [.lit (.bool false)], args := [d1, d2] }
  | _ => none }
def FnSecretMaskIsOneForAllSecretsWrongFalsely : Prop := fnSecretMaskIsOneForAllSecretsRow.holds Trym.pinned (OpenSpec.ofChange fnSecretMaskIsOneForAllSecretsWrong)

/-- 'zzlaws_config_b1.FnNeedsIsAffineWithTheMaskStep': WHATEVER THE INPUT: true; the input reads as it did. -/
def fnNeedsIsAffineWithTheMaskStepSpec : ChangeSpec := { name := "fnNeedsIsAffineWithTheMaskStep", fn := fun _ => fun
  | [d1, d2, d3, d4] => { results := [.lit (.bool true)], args := [d1, d2, d3, d4] }
  | _ => none }
def fnNeedsIsAffineWithTheMaskStepRow : OpenClaim := { program := "qxb6614659amods", sum := "bc2d2c6a507923808a2235f5359113c440d2173568cfa134657e709e28b91261", func := "example.com/failoverd/failoverd/zzlaws_config_b1.FnNeedsIsAffineWithTheMaskStep", spec := "fnNeedsIsAffineWithTheMaskStep", make := .lifted ["publicsums"], apart := false }
def FnNeedsIsAffineWithTheMaskStepSaid : Prop := fnNeedsIsAffineWithTheMaskStepRow.holds Trym.pinned (OpenSpec.ofChange fnNeedsIsAffineWithTheMaskStepSpec)

/-- ITS FALSE NEIGHBOUR: 'it returns false'. Refute it at one input. -/
def fnNeedsIsAffineWithTheMaskStepWrong : ChangeSpec := { name := "fnNeedsIsAffineWithTheMaskStep", fn := fun _ => fun
  | [d1, d2, d3, d4] => { results := [.lit (.bool false)], args := [d1, d2, d3, d4] }
  | _ => none }
def FnNeedsIsAffineWithTheMaskStepWrongFalsely : Prop := fnNeedsIsAffineWithTheMaskStepRow.holds Trym.pinned (OpenSpec.ofChange fnNeedsIsAffineWithTheMaskStepWrong)

/-- 'zzlaws_config_b1.FnNeedsCoversWholeKeysAndPlainBytes': WHATEVER THE INPUT: true; the input reads as it did. -/
def fnNeedsCoversWholeKeysAndPlainBytesSpec : ChangeSpec := { name := "fnNeedsCoversWholeKeysAndPlainBytes", fn := fun _ => fun
  | [d1, d2, d3, d4] => { results := [.lit (.bool true)], args := [d1, d2, d3, d4] }
  | _ => none }
def fnNeedsCoversWholeKeysAndPlainBytesRow : OpenClaim := { program := "qxb6614659amods", sum := "bc2d2c6a507923808a2235f5359113c440d2173568cfa134657e709e28b91261", func := "example.com/failoverd/failoverd/zzlaws_config_b1.FnNeedsCoversWholeKeysAndPlainBytes", spec := "fnNeedsCoversWholeKeysAndPlainBytes", make := .lifted ["publicsums"], apart := false }
def FnNeedsCoversWholeKeysAndPlainBytesSaid : Prop := fnNeedsCoversWholeKeysAndPlainBytesRow.holds Trym.pinned (OpenSpec.ofChange fnNeedsCoversWholeKeysAndPlainBytesSpec)

/-- ITS FALSE NEIGHBOUR: 'it returns false'. Refute it at one input. -/
def fnNeedsCoversWholeKeysAndPlainBytesWrong : ChangeSpec := { name := "fnNeedsCoversWholeKeysAndPlainBytes", fn := fun _ => fun
  | [d1, d2, d3, d4] => { results := [.lit (.bool false)], args := [d1, d2, d3, d4] }
  | _ => none }
def FnNeedsCoversWholeKeysAndPlainBytesWrongFalsely : Prop := fnNeedsCoversWholeKeysAndPlainBytesRow.holds Trym.pinned (OpenSpec.ofChange fnNeedsCoversWholeKeysAndPlainBytesWrong)

end Rows
end Go.Proofs.Qxb6614659aMods
