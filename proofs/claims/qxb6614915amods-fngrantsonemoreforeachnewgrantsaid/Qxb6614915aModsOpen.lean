import Derived.Test.Qxb6614915aModsSlices
import Derived.ProofKit
import Derived.OpenShut
import Derived.SliceStrings
namespace Go.Proofs.Qxb6614915aMods
open Go.ChangeShapes Go.WideShapes Go.ChangeAt Go.RowKit
set_option linter.unusedVariables false

theorem cells9 : Trym.prog.cellsOf 9 = 1 := by kernel_rfl

/-- WHAT THE WALK IS TOLD OF A SLICE OF STRINGS THAT CAME IN. -/
def IsStrs (w : World) (a : Option Addr) (len cap : Nat) (ss : List ByteArray) : Prop :=
  ss.length = len ∧ len ≤ maxLen ∧ (∀ s ∈ ss, s.size ≤ maxLen) ∧ ((a = none ∧ len = 0 ∧ cap = 0) ∨ ∃ x, a = some x) ∧ Row w a ss

/-- A slice of strings that was read, as the walk wants it. -/
theorem strs_of {H : Type} {enc : TypeId × Value → H} {W : World} {a : Option Addr} {len cap fuel : Nat} {x : DataW H × List MemPlace}
    (hf : DataW.trod enc Trym.prog W 0 (fun _ => true) true fuel 34 (Value.slice a len cap).cells.toList = some x) : ∃ ss, IsStrs W a len cap ss := by
  rcases open_strings Trym.underlying34 Trym.underlying9 cells9 hf with ⟨hcs, _⟩ | ⟨x, l, c, zs, hcs, _, hl, hm, hz, _, hcell, hsz⟩
  · simp [Value.cells] at hcs
    obtain ⟨rfl, rfl, rfl⟩ := hcs
    exact ⟨[], rfl, Nat.zero_le _, (fun s hs => by cases hs), .inl ⟨rfl, rfl, rfl⟩, row_nil _ _⟩
  · simp [Value.cells] at hcs
    obtain ⟨rfl, rfl, rfl⟩ := hcs
    have hz' : zs.length = cap := by simpa using hz
    refine ⟨zs.take len, by rw [List.length_take]; omega, Nat.le_trans hl hm, (fun s hs => hsz s (List.mem_of_mem_take hs)), .inr ⟨_, rfl⟩, fun t ht => ?_⟩
    rw [List.length_take] at ht
    obtain ⟨b, off, spot⟩ := x
    have hspot : spot = none := by simpa [Addr.add] using World.cell?_spot (hcell 0 (by omega))
    subst hspot
    refine ⟨b, off, rfl, ?_⟩
    have := hcell t (by omega)
    rw [addr_add] at this
    rw [this, List.getD_eq_getElem?_getD, List.getD_eq_getElem?_getD, List.getElem?_take, if_pos (by omega)]
end Go.Proofs.Qxb6614915aMods
