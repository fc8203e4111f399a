/-
  No cell of these rows narrows 'for every input' (looked for: loops, veiled, ifaces, maps, wideKeys, modest, calm, conditions, laid).
  DERIVED. THE GIVEN ROWS OF THIS SEAT. 2 by the template 'for every input the law returns true; each argument reads behind the call as it read before'; 0 by the template 'total and deterministic' (their statements: Qxb6616569aModsTotals.lean).
  GIVEN WITH THE SEED: the statements are not yours to turn. If you find one false, say at which input.
  Laid BY PROGRAM, IN A SANDBOX (cutbox-rows.mjs): the forced cells as the released guide's own fill.sh prints them over the translation 4b3c3dbbf2572b63… (all of the seat's roots in one cut). By AI agents, Wed Nov 11 2026. No macro, syntax, notation, axiom, sorry.
-/
import Derived.Test.Qxb6616569aModsChecked
import GoSem.Claim
import GoSem.ClaimJoined
import GoSem.ClaimMapViews
import Derived.JoinedTies
import Derived.KernelRfl
namespace Go.Proofs.Qxb6616569aMods
/- THE CELL 'sum', in the pinned program and in every row, IS THE sha256 OF THE DUMP (.gsa) THAT Qxb6616569aModsProg.lean LOADS. Nothing in Lean hashes anything: it is a label: what it is worth is what the hold of that sum in a sandbox is worth. -/
noncomputable def Trym.pinned : Pinned := { name := "qxb6616569amods", sum := "4b3c3dbbf2572b6301d6a02ad2ff67594f423f69235a62007d755b52b92fb8ae", checked := Trym.checked }
namespace Rows
def none {H : Type} : Left H := { results := [], args := [] }

/-- 'zzlaws_store_b1.FnPicksAncestorsAtEveryCut': WHATEVER THE INPUT: true; the input reads as it did. -/
def fnPicksAncestorsAtEveryCutSpec : ChangeSpec := { name := "fnPicksAncestorsAtEveryCut", fn := fun _ => fun
  | [d1, d2, d3] => { results := [.lit (.bool true)], args := [d1, d2, d3] }
  | _ => none }
def fnPicksAncestorsAtEveryCutRow : OpenClaim := { program := "qxb6616569amods", sum := "4b3c3dbbf2572b6301d6a02ad2ff67594f423f69235a62007d755b52b92fb8ae", func := "example.com/mortise/mortise/zzlaws_store_b1.FnPicksAncestorsAtEveryCut", spec := "fnPicksAncestorsAtEveryCut", make := .lifted ["publicsums"], apart := false }
def FnPicksAncestorsAtEveryCutSaid : Prop := fnPicksAncestorsAtEveryCutRow.holds Trym.pinned (OpenSpec.ofChange fnPicksAncestorsAtEveryCutSpec)

/-- ITS FALSE NEIGHBOUR: 'it returns false'. Refute it at one input. -/
def fnPicksAncestorsAtEveryCutWrong : ChangeSpec := { name := "fnPicksAncestorsAtEveryCut", fn := fun _ => fun
  | [d1, d2, d3] => { results := [.lit (.bool false)], args := [d1, d2, d3] }
  | _ => none }
def FnPicksAncestorsAtEveryCutWrongFalsely : Prop := fnPicksAncestorsAtEveryCutRow.holds Trym.pinned (OpenSpec.ofChange fnPicksAncestorsAtEveryCutWrong)

/-- 'zzlaws_store_b1.FnOwnerValueIgnoresRestOfEntry': WHATEVER THE INPUT: true; the input reads as it did. -/
def fnOwnerValueIgnoresRestOfEntrySpec : ChangeSpec := { name := "fnOwnerValueIgnoresRestOfEntry", fn := fun _ => fun
  | [d1, d2, d3, d4, d5, d6, d7, d8, d9, d10] => { results := [.lit (.bool true)], args := [d1, d2, d3, d4, d5, d6, d7, d8, d9, d10] }
  | _ => none }
def fnOwnerValueIgnoresRestOfEntryRow : OpenClaim := { program := "qxb6616569amods", sum := "4b3c3dbbf2572b6301d6a02ad2ff67594f423f69235a62007d755b52b92fb8ae", func := "example.com/mortise/mortise/zzlaws_store_b1.FnOwnerValueIgnoresRestOfEntry", spec := "fnOwnerValueIgnoresRestOfEntry", unfollowed := true, recurses := true, make := .lifted ["publicsums"], apart := false }
def FnOwnerValueIgnoresRestOfEntrySaid : Prop := fnOwnerValueIgnoresRestOfEntryRow.holds Trym.pinned (OpenSpec.ofChange fnOwnerValueIgnoresRestOfEntrySpec)

/-- ITS FALSE NEIGHBOUR: 'it returns false'. Refute it at one input. -/
def fnOwnerValueIgnoresRestOfEntryWrong : ChangeSpec := { name := "fnOwnerValueIgnoresRestOfEntry", fn := fun _ => fun
  | [d1, d2, d3, d4, d5, d6, d7, d8, d9, d10] => { results := [.lit (.bool false)], args := [d1, d2, d3, d4, d5, d6, d7, d8, d9, d10] }
  | _ => none }
def FnOwnerValueIgnoresRestOfEntryWrongFalsely : Prop := fnOwnerValueIgnoresRestOfEntryRow.holds Trym.pinned (OpenSpec.ofChange fnOwnerValueIgnoresRestOfEntryWrong)

end Rows
end Go.Proofs.Qxb6616569aMods
