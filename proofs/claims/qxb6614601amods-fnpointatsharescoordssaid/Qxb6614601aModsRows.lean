/-
  No cell of these rows narrows 'for every input' (looked for: loops, veiled, ifaces, maps, wideKeys, modest, calm, conditions, laid).
  DERIVED. THE GIVEN ROWS OF THIS SEAT. 5 by the template 'for every input the law returns true; each argument reads behind the call as it read before'; 0 by the template 'total and deterministic' (their statements: Qxb6614601aModsTotals.lean).
  GIVEN WITH THE SEED: the statements are not yours to turn. If you find one false, say at which input.
  Laid BY PROGRAM, IN A SANDBOX (cutbox-rows.mjs): the forced cells as the released guide's own fill.sh prints them over the translation debb843b25c55db4… (all of the seat's roots in one cut). By AI agents, Wed Nov 11 2026. No macro, syntax, notation, axiom, sorry.
-/
import Derived.Test.Qxb6614601aModsChecked
import GoSem.Claim
import GoSem.ClaimJoined
import GoSem.ClaimMapViews
import Derived.JoinedTies
import Derived.KernelRfl
namespace Go.Proofs.Qxb6614601aMods
/- THE CELL 'sum', in the pinned program and in every row, IS THE sha256 OF THE DUMP (.gsa) THAT Qxb6614601aModsProg.lean LOADS. Nothing in Lean hashes anything: it is a label: what it is worth is what the hold of that sum in a sandbox is worth. -/
noncomputable def Trym.pinned : Pinned := { name := "qxb6614601amods", sum := "debb843b25c55db4167d14343e5f122fac92fa2d4f54d76b79cd26a456c3f66d", checked := Trym.checked }
namespace Rows
def none {H : Type} : Left H := { results := [], args := [] }

/-- 'zzlaws_root_b1.FnReduceIsLeastUpperBound': WHATEVER THE INPUT: true; the input reads as it did. -/
def fnReduceIsLeastUpperBoundSpec : ChangeSpec := { name := "fnReduceIsLeastUpperBound", fn := fun _ => fun
  | [d1, d2, d3] => { results := [.lit (.bool true)], args := [d1, d2, d3] }
  | _ => none }
def fnReduceIsLeastUpperBoundRow : OpenClaim := { program := "qxb6614601amods", sum := "debb843b25c55db4167d14343e5f122fac92fa2d4f54d76b79cd26a456c3f66d", func := "example.com/tessera/tessera/zzlaws_root_b1.FnReduceIsLeastUpperBound", spec := "fnReduceIsLeastUpperBound", make := .lifted ["publicsums"], apart := false }
def FnReduceIsLeastUpperBoundSaid : Prop := fnReduceIsLeastUpperBoundRow.holds Trym.pinned (OpenSpec.ofChange fnReduceIsLeastUpperBoundSpec)

/-- ITS FALSE NEIGHBOUR: 'it returns false'. Refute it at one input. -/
def fnReduceIsLeastUpperBoundWrong : ChangeSpec := { name := "fnReduceIsLeastUpperBound", fn := fun _ => fun
  | [d1, d2, d3] => { results := [.lit (.bool false)], args := [d1, d2, d3] }
  | _ => none }
def FnReduceIsLeastUpperBoundWrongFalsely : Prop := fnReduceIsLeastUpperBoundRow.holds Trym.pinned (OpenSpec.ofChange fnReduceIsLeastUpperBoundWrong)

/-- 'zzlaws_root_b1.FnReduceSemilatticeCounts': WHATEVER THE INPUT: true; the input reads as it did. -/
def fnReduceSemilatticeCountsSpec : ChangeSpec := { name := "fnReduceSemilatticeCounts", fn := fun _ => fun
  | [d1, d2, d3] => { results := [.lit (.bool true)], args := [d1, d2, d3] }
  | _ => none }
def fnReduceSemilatticeCountsRow : OpenClaim := { program := "qxb6614601amods", sum := "debb843b25c55db4167d14343e5f122fac92fa2d4f54d76b79cd26a456c3f66d", func := "example.com/tessera/tessera/zzlaws_root_b1.FnReduceSemilatticeCounts", spec := "fnReduceSemilatticeCounts", make := .lifted ["publicsums"], apart := false }
def FnReduceSemilatticeCountsSaid : Prop := fnReduceSemilatticeCountsRow.holds Trym.pinned (OpenSpec.ofChange fnReduceSemilatticeCountsSpec)

/-- ITS FALSE NEIGHBOUR: 'it returns false'. Refute it at one input. -/
def fnReduceSemilatticeCountsWrong : ChangeSpec := { name := "fnReduceSemilatticeCounts", fn := fun _ => fun
  | [d1, d2, d3] => { results := [.lit (.bool false)], args := [d1, d2, d3] }
  | _ => none }
def FnReduceSemilatticeCountsWrongFalsely : Prop := fnReduceSemilatticeCountsRow.holds Trym.pinned (OpenSpec.ofChange fnReduceSemilatticeCountsWrong)

/-- 'zzlaws_root_b1.FnLessTrichotomy': WHATEVER THE INPUT: true; the input reads as it did. -/
def fnLessTrichotomySpec : ChangeSpec := { name := "fnLessTrichotomy", fn := fun _ => fun
  | [d1, d2, d3, d4] => { results := [.lit (.bool true)], args := [d1, d2, d3, d4] }
  | _ => none }
def fnLessTrichotomyRow : OpenClaim := { program := "qxb6614601amods", sum := "debb843b25c55db4167d14343e5f122fac92fa2d4f54d76b79cd26a456c3f66d", func := "example.com/tessera/tessera/zzlaws_root_b1.FnLessTrichotomy", spec := "fnLessTrichotomy", make := .lifted ["publicsums"], apart := false }
def FnLessTrichotomySaid : Prop := fnLessTrichotomyRow.holds Trym.pinned (OpenSpec.ofChange fnLessTrichotomySpec)

/-- ITS FALSE NEIGHBOUR: 'it returns false'. Refute it at one input. -/
def fnLessTrichotomyWrong : ChangeSpec := { name := "fnLessTrichotomy", fn := fun _ => fun
  | [d1, d2, d3, d4] => { results := [.lit (.bool false)], args := [d1, d2, d3, d4] }
  | _ => none }
def FnLessTrichotomyWrongFalsely : Prop := fnLessTrichotomyRow.holds Trym.pinned (OpenSpec.ofChange fnLessTrichotomyWrong)

/-- 'zzlaws_root_b1.FnPointAtTakesCubeCorners': WHATEVER THE INPUT: true; the input reads as it did. -/
def fnPointAtTakesCubeCornersSpec : ChangeSpec := { name := "fnPointAtTakesCubeCorners", fn := fun _ => fun
  | [d] => { results := [.lit (.bool true)], args := [d] }
  | _ => none }
def fnPointAtTakesCubeCornersRow : OpenClaim := { program := "qxb6614601amods", sum := "debb843b25c55db4167d14343e5f122fac92fa2d4f54d76b79cd26a456c3f66d", func := "example.com/tessera/tessera/zzlaws_root_b1.FnPointAtTakesCubeCorners", spec := "fnPointAtTakesCubeCorners", make := .lifted ["publicsums"], apart := false }
def FnPointAtTakesCubeCornersSaid : Prop := fnPointAtTakesCubeCornersRow.holds Trym.pinned (OpenSpec.ofChange fnPointAtTakesCubeCornersSpec)

/-- ITS FALSE NEIGHBOUR: 'it returns false'. Refute it at one input. -/
def fnPointAtTakesCubeCornersWrong : ChangeSpec := { name := "fnPointAtTakesCubeCorners", fn := fun _ => fun
  | [d] => { results := [.lit (.bool false)], args := [d] }
  | _ => none }
def FnPointAtTakesCubeCornersWrongFalsely : Prop := fnPointAtTakesCubeCornersRow.holds Trym.pinned (OpenSpec.ofChange fnPointAtTakesCubeCornersWrong)

/-- 'zzlaws_root_b1.FnPointAtSharesCoords': WHATEVER THE INPUT: true; the input reads as it did. -/
def fnPointAtSharesCoordsSpec : ChangeSpec := { name := "fnPointAtSharesCoords", fn := fun _ => fun
  | [d1, d2, d3, d4, d5] => { results := [.lit (.bool true)], args := [d1, d2, d3, d4, d5] }
  | _ => none }
def fnPointAtSharesCoordsRow : OpenClaim := { program := "qxb6614601amods", sum := "debb843b25c55db4167d14343e5f122fac92fa2d4f54d76b79cd26a456c3f66d", func := "example.com/tessera/tessera/zzlaws_root_b1.FnPointAtSharesCoords", spec := "fnPointAtSharesCoords", make := .lifted ["publicsums"], apart := false }
def FnPointAtSharesCoordsSaid : Prop := fnPointAtSharesCoordsRow.holds Trym.pinned (OpenSpec.ofChange fnPointAtSharesCoordsSpec)

/-- ITS FALSE NEIGHBOUR: 'it returns false'. Refute it at one input. -/
def fnPointAtSharesCoordsWrong : ChangeSpec := { name := "fnPointAtSharesCoords", fn := fun _ => fun
  | [d1, d2, d3, d4, d5] => { results := [.lit (.bool false)], args := [d1, d2, d3, d4, d5] }
  | _ => none }
def FnPointAtSharesCoordsWrongFalsely : Prop := fnPointAtSharesCoordsRow.holds Trym.pinned (OpenSpec.ofChange fnPointAtSharesCoordsWrong)

end Rows
end Go.Proofs.Qxb6614601aMods
