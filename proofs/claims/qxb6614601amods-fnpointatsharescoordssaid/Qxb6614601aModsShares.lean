import Derived.Test.Qxb6614601aModsCorners
import Derived.Test.Qxb6614601aModsCopy
namespace Go.Proofs.Qxb6614601aMods
open Go.RowKit
set_option linter.unusedVariables false
attribute [local go_sem] run_store_float

theorem Trym.size44 : (Trym.prog.info? 44).map (·.size) = some 1 := by kernel_rfl

/-- Floats as cells. -/
def fl (bs : Nat → Nat) : Nat → Value := fun t => .float .f64 (bs t)

theorem row_of_cells {w : World} {g n : Nat} {f : Nat → Value} (h : w.heap[g]? = some (.cells ((List.range n).map f).toArray 44 (0, 0))) : w.rowIs g 44 n f :=
  ⟨_, h, by simp, fun i hi => by simp [hi]⟩

/-- 'cloneFloats' of a slice that is not nil. -/
theorem clone_any (x : Addr) (n c : Nat) (bs : Nat → Nat) (w : World) (hn : n ≤ 65536) (hcell : ∀ t, t < n → w.cell? (x.add t) = some (fl bs t)) :
    Calls Trym.prog 19 #[.slice (some x) n c] w fun e w' => e = .returned (.slice (some ⟨w.heap.size, 0, none⟩) n n) ∧ w'.rowIs w.heap.size 44 n (fl bs) ∧ w'.heap.size = w.heap.size + 1 ∧ Below w.heap.size w w' := by
  have hmk := run_make_row' (P := Trym.prog) 35 44 (.float .f64 0) 8 Trym.underlying35 Trym.info44 rfl .i64 .i64 n (by omega) (by omega)
  have heq := fun (w : World) (a : Option Addr) (n c : Nat) => Lib.run_eql_slice_nil (P := Trym.prog) w 35 44 a n c 0 0 Trym.underlying35
  obtain ⟨w2, hcp, h2, h3, h4⟩ := copy_made (P := Trym.prog) 35 44 (.float .f64 0) Trym.underlying35 Trym.size44 w x n c ((List.range n).map (fl bs)) (by simp)
    (fun t v hv => by
      rw [List.getElem?_map, Option.map_eq_some_iff] at hv
      obtain ⟨j, hj, rfl⟩ := hv
      obtain ⟨hj1, hj2⟩ := List.getElem?_eq_some_iff.1 hj
      rw [List.length_range] at hj1
      rw [List.getElem_range] at hj2
      subst hj2
      exact hcell t hj1)
    (fun v hv => by obtain ⟨j, _, rfl⟩ := List.mem_map.1 hv; rfl)
  have H : Hid (w2.rowIs w.heap.size 44 n (fl bs) ∧ w2.heap.size = w.heap.size + 1 ∧ Below w.heap.size w w2) := ⟨row_of_cells h2, h3, h4⟩
  clear h2 h3 h4 hcell
  go_enter Trym.func19, Trym.ntmps19
  go_wp2
  go_ret
  exact ⟨rfl, H.out⟩

theorem eu_abs (d : Int) (w : World) : Calls Trym.prog 14 #[.int .i64 d] w fun e w' => e = .returned (.agg #[.int .i64 d]) ∧ Below w.heap.size w w' :=
  (eu_any d w).mono fun e w' ⟨he, hw⟩ => ⟨he, by subst hw; exact (Below.refl _ _).alloc (Nat.le_refl _) _⟩

theorem sbytes_yes (a : Option Addr) (n c : Nat) (x y z t : Value) (w : World) (hs : n ≤ 1048576) : Calls Trym.prog 18 #[.slice a n c, x, y, z, t] w fun e w' => e = .returned (.bool true) ∧ w = w' := by
  go_enter Trym.func18, Trym.ntmps18
  go_wp2
  go_ret
  exact ⟨rfl, rfl⟩
theorem sbytes_no (a : Option Addr) (n c : Nat) (x y z t : Value) (w : World) (hs : ¬ n ≤ 1048576) (hm : n ≤ maxLen) : Calls Trym.prog 18 #[.slice a n c, x, y, z, t] w fun e w' => e = .returned (.bool false) ∧ w = w' := by
  unfold maxLen at hm
  go_enter Trym.func18, Trym.ntmps18
  go_wp2
  go_ret
  exact ⟨rfl, rfl⟩

/-- A row below a world that keeps all that was there. -/
theorem row_below {w w' : World} (hb : Below w.heap.size w w') {g t n : Nat} {f : Nat → Value} (h : w.rowIs g t n f) : w'.rowIs g t n f := h.of_block (hb.block _ h.lt)
end Go.Proofs.Qxb6614601aMods
