import Derived.Laws.CopyOwn
import Derived.Deep.OwnRows
import Derived.WalkKit
namespace Go.Proofs.Qxb6614915aMods
open Go.RowKit

/-- 'c := make([]T, len(s)); copy(c, s)', T of one cell, s not nil: the copy's run, as an equation for the walk; behind it the new block holds just what s held; nothing older has turned. -/
theorem copy_made {P : Program} (T e : TypeId) (z : Value) (hu : P.underlying T = some (.slice e)) (hsz : (P.info? e).map (·.size) = some 1)
    (w : World) (x : Addr) (len cap : Nat) (cs : List Value) (hl : cs.length = len) (hcell : ∀ t v, cs[t]? = some v → w.cell? (x.add t) = some v) (h1 : ∀ v ∈ cs, v.oneCell' = true) :
    ∃ w2, (∀ ty, (Builtin.copy_ #[T, T] ty #[.slice (some ⟨w.heap.size, 0, none⟩) len len, .slice (some x) len cap]).run P (w.alloc (.cells (madeCells #[z] len) e)) = .ok (.int .i64 len) w2) ∧
      w2.heap[w.heap.size]? = some (.cells cs.toArray e (0, 0)) ∧ w2.heap.size = w.heap.size + 1 ∧ Below w.heap.size w w2 := by
  have hg : (w.alloc (.cells (madeCells #[z] len) e)).heap[w.heap.size]? = some (.cells (madeCells #[z] len) e (0, 0)) := heap_alloc_new _ _
  have hsz0 := size_madeCells #[z] len
  have hb : Below w.heap.size w (w.alloc (.cells (madeCells #[z] len) e)) := (Below.refl _ _).alloc (Nat.le_refl _) _
  have hsrc : ∀ t v, cs[t]? = some v → (w.alloc (.cells (madeCells #[z] len) e)).cell? (x.add t) = some v := by
    intro t v hv
    have := hcell t v hv
    rw [hb.cell (World.block_lt_of_cell? w _ this)]; exact this
  have e1 : ((madeCells #[z] len).toList.take 0 ++ cs ++ (madeCells #[z] len).toList.drop (0 + cs.length)) = cs := by
    rw [List.drop_eq_nil_of_le (by rw [Array.length_toList, hsz0]; omega)]; simp
  refine ⟨(w.alloc (.cells (madeCells #[z] len) e)).setRow w.heap.size cs.toArray, fun ty => ?_, ?_, ?_, below_setRow hb (Nat.le_refl _) _⟩
  · have hrun := run_copy_row (P := P) (w.alloc (.cells (madeCells #[z] len) e)) T T ty e w.heap.size 0 len len x len cap (madeCells #[z] len) e cs hu hsz hg (by rw [hl]; exact (Nat.min_self len).symm) hsrc (by rw [hsz0]; omega) h1
    rw [hrun, e1, hl]; rfl
  · exact setRow_heap _ _ _ _ _ _ hg
  · simp [World.setRow]
end Go.Proofs.Qxb6614915aMods
