import Derived.Test.Qxb6614915aModsSlices
import Derived.Test.Qxb6614915aModsBytes1
namespace Go.Proofs.Qxb6614915aMods
open Go.RowKit Go.Maps Go.WideMaps
set_option linter.unusedVariables false

/-- The row of the longer copy after k rounds. -/
def fill (ss : List ByteArray) (k : Nat) : Nat → Value := fun t => if t < k then .string (ss.getD t ByteArray.empty) else .string ByteArray.empty

theorem fill_start (w : World) (ss : List ByteArray) (m : Nat) : (w.alloc (.cells (madeCells #[.string ByteArray.empty] m) 9)).rowIs w.heap.size 9 m (fill ss 0) :=
  (World.rowIs_made w (.string ByteArray.empty) m 9).congr fun i _ => by simp [fill]
theorem fill_step {w : World} {g m k : Nat} {ss : List ByteArray} (h : w.rowIs g 9 m (fill ss k)) : (w.setCell ⟨g, k, none⟩ (.string (ss.getD k ByteArray.empty))).rowIs g 9 m (fill ss (k + 1)) := by
  refine (h.set k _).congr fun i hi => ?_
  by_cases e : i = k
  · subst e; simp [fill]
  · simp only [fill, if_neg e]
    by_cases e2 : i < k
    · rw [if_pos e2, if_pos (by omega)]
    · rw [if_neg e2, if_neg (by omega)]
theorem fill_end {w : World} {g n : Nat} {ss : List ByteArray} (hl : ss.length = n) (h : w.rowIs g 9 (n + 1) (fill ss n)) (p : ByteArray) : Row (w.setCell ⟨g, n, none⟩ (.string p)) (some ⟨g, 0, none⟩) (ss ++ [p]) := by
  intro t ht
  rw [List.length_append, List.length_singleton, hl] at ht
  refine ⟨g, 0, rfl, ?_⟩
  rw [Nat.zero_add, (h.set n (.string p)).cell ht]
  by_cases e : t = n
  · subst e; rw [if_pos rfl, ← hl, getD_end]
  · rw [if_neg e, getD_left ss [p] t (by omega)]
    simp only [fill]
    rw [if_pos (by omega)]
end Go.Proofs.Qxb6614915aMods
