/-
  No cell of these rows narrows 'for every input' (looked for: loops, veiled, ifaces, maps, wideKeys, modest, calm, conditions, laid).
  DERIVED. THE GIVEN ROWS OF THIS SEAT. 4 by the template 'for every input the law returns true; each argument reads behind the call as it read before'; 0 by the template 'total and deterministic' (their statements: Qxb6614915aModsTotals.lean).
  GIVEN WITH THE SEED: the statements are not yours to turn. If you find one false, say at which input.
  Laid BY PROGRAM, IN A SANDBOX (cutbox-rows.mjs): the forced cells as the released guide's own fill.sh prints them over the translation 4d7c24cb98acc8de… (all of the seat's roots in one cut). By AI agents, Wed Nov 11 2026. No macro, syntax, notation, axiom, sorry.
-/
import Derived.Test.Qxb6614915aModsChecked
import GoSem.Claim
import GoSem.ClaimJoined
import GoSem.ClaimMapViews
import Derived.JoinedTies
import Derived.KernelRfl
namespace Go.Proofs.Qxb6614915aMods
/- THE CELL 'sum', in the pinned program and in every row, IS THE sha256 OF THE DUMP (.gsa) THAT Qxb6614915aModsProg.lean LOADS. Nothing in Lean hashes anything: it is a label: what it is worth is what the hold of that sum in a sandbox is worth. -/
noncomputable def Trym.pinned : Pinned := { name := "qxb6614915amods", sum := "4d7c24cb98acc8de88d01f06e69c042ac22885dc03156302b826a2f4bca0aa19", checked := Trym.checked }
namespace Rows
def none {H : Type} : Left H := { results := [], args := [] }

/-- 'zzlaws_pkg_store_b1.FnUpToAddsOnePlaceholderAndOneArg': WHATEVER THE INPUT: true; the input reads as it did. -/
def fnUpToAddsOnePlaceholderAndOneArgSpec : ChangeSpec := { name := "fnUpToAddsOnePlaceholderAndOneArg", fn := fun _ => fun
  | [d1, d2, d3, d4] => { results := [.lit (.bool true)], args := [d1, d2, d3, d4] }
  | _ => none }
def fnUpToAddsOnePlaceholderAndOneArgRow : OpenClaim := { program := "qxb6614915amods", sum := "4d7c24cb98acc8de88d01f06e69c042ac22885dc03156302b826a2f4bca0aa19", func := "example.com/castellan/castellan/zzlaws_pkg_store_b1.FnUpToAddsOnePlaceholderAndOneArg", spec := "fnUpToAddsOnePlaceholderAndOneArg", make := .lifted ["publicsums"], apart := false }
def FnUpToAddsOnePlaceholderAndOneArgSaid : Prop := fnUpToAddsOnePlaceholderAndOneArgRow.holds Trym.pinned (OpenSpec.ofChange fnUpToAddsOnePlaceholderAndOneArgSpec)

/-- ITS FALSE NEIGHBOUR: 'it returns false'. Refute it at one input. -/
def fnUpToAddsOnePlaceholderAndOneArgWrong : ChangeSpec := { name := "fnUpToAddsOnePlaceholderAndOneArg", fn := fun _ => fun
  | [d1, d2, d3, d4] => { results := [.lit (.bool false)], args := [d1, d2, d3, d4] }
  | _ => none }
def FnUpToAddsOnePlaceholderAndOneArgWrongFalsely : Prop := fnUpToAddsOnePlaceholderAndOneArgRow.holds Trym.pinned (OpenSpec.ofChange fnUpToAddsOnePlaceholderAndOneArgWrong)

/-- 'zzlaws_pkg_store_b1.FnUpToLeavesItsSourceAndSiblingsAlone': WHATEVER THE INPUT: true; the input reads as it did. -/
def fnUpToLeavesItsSourceAndSiblingsAloneSpec : ChangeSpec := { name := "fnUpToLeavesItsSourceAndSiblingsAlone", fn := fun _ => fun
  | [d1, d2, d3, d4] => { results := [.lit (.bool true)], args := [d1, d2, d3, d4] }
  | _ => none }
def fnUpToLeavesItsSourceAndSiblingsAloneRow : OpenClaim := { program := "qxb6614915amods", sum := "4d7c24cb98acc8de88d01f06e69c042ac22885dc03156302b826a2f4bca0aa19", func := "example.com/castellan/castellan/zzlaws_pkg_store_b1.FnUpToLeavesItsSourceAndSiblingsAlone", spec := "fnUpToLeavesItsSourceAndSiblingsAlone", make := .lifted ["publicsums"], apart := false }
def FnUpToLeavesItsSourceAndSiblingsAloneSaid : Prop := fnUpToLeavesItsSourceAndSiblingsAloneRow.holds Trym.pinned (OpenSpec.ofChange fnUpToLeavesItsSourceAndSiblingsAloneSpec)

/-- ITS FALSE NEIGHBOUR: 'it returns false'. Refute it at one input. -/
def fnUpToLeavesItsSourceAndSiblingsAloneWrong : ChangeSpec := { name := "fnUpToLeavesItsSourceAndSiblingsAlone", fn := fun _ => fun
  | [d1, d2, d3, d4] => { results := [.lit (.bool false)], args := [d1, d2, d3, d4] }
  | _ => none }
def FnUpToLeavesItsSourceAndSiblingsAloneWrongFalsely : Prop := fnUpToLeavesItsSourceAndSiblingsAloneRow.holds Trym.pinned (OpenSpec.ofChange fnUpToLeavesItsSourceAndSiblingsAloneWrong)

/-- 'zzlaws_pkg_store_b1.FnGrantsOneMoreForEachNewGrant': WHATEVER THE INPUT: true; the input reads as it did. -/
def fnGrantsOneMoreForEachNewGrantSpec : ChangeSpec := { name := "fnGrantsOneMoreForEachNewGrant", fn := fun _ => fun
  | [d1, d2, d3, d4, d5, d6] => { results := [.lit (.bool true)], args := [d1, d2, d3, d4, d5, d6] }
  | _ => none }
def fnGrantsOneMoreForEachNewGrantRow : OpenClaim := { program := "qxb6614915amods", sum := "4d7c24cb98acc8de88d01f06e69c042ac22885dc03156302b826a2f4bca0aa19", func := "example.com/castellan/castellan/zzlaws_pkg_store_b1.FnGrantsOneMoreForEachNewGrant", spec := "fnGrantsOneMoreForEachNewGrant", make := .lifted ["publicsums"], apart := false }
def FnGrantsOneMoreForEachNewGrantSaid : Prop := fnGrantsOneMoreForEachNewGrantRow.holds Trym.pinned (OpenSpec.ofChange fnGrantsOneMoreForEachNewGrantSpec)

/-- ITS FALSE NEIGHBOUR: 'it returns false'. Refute it at one input. -/
def fnGrantsOneMoreForEachNewGrantWrong : ChangeSpec := { name := "fnGrantsOneMoreForEachNewGrant", fn := fun _ => fun
  | [d1, d2, d3, d4, d5, d6] => { results := [.lit (.bool false)], args := [d1, d2, d3, d4, d5, d6] }
  | _ => none }
def FnGrantsOneMoreForEachNewGrantWrongFalsely : Prop := fnGrantsOneMoreForEachNewGrantRow.holds Trym.pinned (OpenSpec.ofChange fnGrantsOneMoreForEachNewGrantWrong)

/-- 'zzlaws_pkg_store_b1.FnGrantsOfTwoPartsCountTheSharedProjectsTwice': WHATEVER THE INPUT: true; the input reads as it did. -/
def fnGrantsOfTwoPartsCountTheSharedProjectsTwiceSpec : ChangeSpec := { name := "fnGrantsOfTwoPartsCountTheSharedProjectsTwice", fn := fun _ => fun
  | [d1, d2, d3, d4, d5, d6] => { results := [.lit (.bool true)], args := [d1, d2, d3, d4, d5, d6] }
  | _ => none }
def fnGrantsOfTwoPartsCountTheSharedProjectsTwiceRow : OpenClaim := { program := "qxb6614915amods", sum := "4d7c24cb98acc8de88d01f06e69c042ac22885dc03156302b826a2f4bca0aa19", func := "example.com/castellan/castellan/zzlaws_pkg_store_b1.FnGrantsOfTwoPartsCountTheSharedProjectsTwice", spec := "fnGrantsOfTwoPartsCountTheSharedProjectsTwice", make := .lifted ["publicsums"], apart := false }
def FnGrantsOfTwoPartsCountTheSharedProjectsTwiceSaid : Prop := fnGrantsOfTwoPartsCountTheSharedProjectsTwiceRow.holds Trym.pinned (OpenSpec.ofChange fnGrantsOfTwoPartsCountTheSharedProjectsTwiceSpec)

/-- ITS FALSE NEIGHBOUR: 'it returns false'. Refute it at one input. -/
def fnGrantsOfTwoPartsCountTheSharedProjectsTwiceWrong : ChangeSpec := { name := "fnGrantsOfTwoPartsCountTheSharedProjectsTwice", fn := fun _ => fun
  | [d1, d2, d3, d4, d5, d6] => { results := [.lit (.bool false)], args := [d1, d2, d3, d4, d5, d6] }
  | _ => none }
def FnGrantsOfTwoPartsCountTheSharedProjectsTwiceWrongFalsely : Prop := fnGrantsOfTwoPartsCountTheSharedProjectsTwiceRow.holds Trym.pinned (OpenSpec.ofChange fnGrantsOfTwoPartsCountTheSharedProjectsTwiceWrong)

end Rows
end Go.Proofs.Qxb6614915aMods
