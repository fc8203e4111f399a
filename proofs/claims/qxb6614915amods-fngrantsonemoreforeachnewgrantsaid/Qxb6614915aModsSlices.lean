import Derived.Test.Qxb6614915aModsNew0
import Derived.Test.Qxb6614915aModsBytes
import Derived.Test.Qxb6614915aModsStrs2
namespace Go.Proofs.Qxb6614915aMods
open Go.RowKit Go.Maps Go.WideMaps
set_option linter.unusedVariables false

theorem Row.below {w w' : World} {a : Option Addr} {ss : List ByteArray} (h : Row w a ss) (hb : Below w.heap.size w w') : Row w' a ss := by
  intro t ht
  obtain ⟨b, off, e, hc⟩ := h t ht
  exact ⟨b, off, e, by rw [hb.cell (World.block_lt_of_cell? w _ hc)]; exact hc⟩
theorem row_nil (w : World) (a : Option Addr) : Row w a [] := fun t ht => by simp at ht
theorem Row.drop {w : World} {b : Nat} {ss : List ByteArray} (h : Row w (some ⟨b, 0, none⟩) ss) (k : Nat) : Row w (some ⟨b, k, none⟩) (ss.drop k) := by
  intro t ht
  rw [List.length_drop] at ht
  obtain ⟨b1, off, e, hc⟩ := h (k + t) (by omega)
  cases e
  refine ⟨b, k, rfl, ?_⟩
  rw [Nat.zero_add] at hc
  rw [hc, List.getD_eq_getElem?_getD, List.getD_eq_getElem?_getD, List.getElem?_drop]

/-- A copy of a slice of strings that is not nil. -/
theorem copied (x : Addr) (n c : Nat) (ss : List ByteArray) (w : World) (hl : ss.length = n) (hr : Row w (some x) ss) :
    ∃ w2, (∀ ty, (Builtin.copy_ #[34, 34] ty #[.slice (some ⟨w.heap.size, 0, none⟩) n n, .slice (some x) n c]).run Trym.prog (w.alloc (.cells (madeCells #[.string ByteArray.empty] n) 9)) = .ok (.int .i64 n) w2) ∧
      Row w2 (some ⟨w.heap.size, 0, none⟩) ss ∧ w2.heap.size = w.heap.size + 1 ∧ Below w.heap.size w w2 := by
  obtain ⟨w2, h1, h2, h3, h4⟩ := copy_made (P := Trym.prog) 34 9 (.string ByteArray.empty) Trym.underlying34 Trym.size9 w x n c (ss.map Value.string) (by rw [List.length_map, hl])
    (fun t v hv => by
      rw [List.getElem?_map, Option.map_eq_some_iff] at hv
      obtain ⟨s, hs, rfl⟩ := hv
      obtain ⟨ht, hs2⟩ := List.getElem?_eq_some_iff.1 hs
      obtain ⟨b1, o1, e1, hc1⟩ := hr t ht
      cases e1
      rw [addr_add, hc1, List.getD_eq_getElem?_getD, hs]; rfl)
    (fun v hv => by obtain ⟨s, _, rfl⟩ := List.mem_map.1 hv; rfl)
  refine ⟨w2, h1, fun t ht => ⟨w.heap.size, 0, rfl, ?_⟩, h3, h4⟩
  rw [cell_of_block h2, Nat.zero_add, List.getElem?_toArray, List.getElem?_map, List.getD_eq_getElem?_getD, List.getElem?_eq_getElem ht]; rfl
end Go.Proofs.Qxb6614915aMods
