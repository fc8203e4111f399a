import Derived.Test.Qxb6614601aModsLess
import Derived.Test.Qxb6614601aModsCopy
namespace Go.Proofs.Qxb6614601aMods
open Go.RowKit
set_option linter.unusedVariables false

theorem Trym.info22 : (Trym.prog.info? 22).map (fun i => (i.zero, i.size, i.bytes)) = some (some (.int .u64 0), 1, 8) := by kernel_rfl
theorem Trym.size22 : (Trym.prog.info? 22).map (·.size) = some 1 := by kernel_rfl

/-- The cells that a copy of the first 'n' numbers holds. -/
def row (zs : List Int) (n : Nat) : List Value := (zs.take n).map (Value.int .u64)
theorem row_len (zs : List Int) (n : Nat) (h : n ≤ zs.length) : (row zs n).length = n := by simp [row]; omega
theorem row_at (zs : List Int) (n j : Nat) (v : Value) (h : (row zs n)[j]? = some v) : j < n ∧ v = .int .u64 (zs.getD j 0) := by
  unfold row at h
  rw [List.getElem?_map, Option.map_eq_some_iff] at h
  obtain ⟨z, hz, rfl⟩ := h
  rw [List.getElem?_take] at hz
  split at hz
  · rename_i hj; exact ⟨hj, by rw [List.getD_eq_getElem?_getD, hz]; rfl⟩
  · cases hz
theorem row_get (zs : List Int) (n j : Nat) (hn : n ≤ zs.length) (h : j < n) : (row zs n)[j]? = some (.int .u64 (zs.getD j 0)) := by
  unfold row
  rw [List.getElem?_map, List.getElem?_take, if_pos h, List.getD_eq_getElem?_getD, List.getElem?_eq_getElem (by omega)]
  rfl
theorem row_one (zs : List Int) (n : Nat) : ∀ v ∈ row zs n, v.oneCell' = true := by
  intro v hv
  obtain ⟨z, _, rfl⟩ := List.mem_map.1 hv
  rfl

/-- What the copy is good for: its run, its cells, that nothing older has turned. -/
theorem copied (x : Addr) (len cap : Nat) (zs : List Int) (w : World) (hlc : len ≤ cap) (hz : zs.length = cap)
    (hcell : ∀ t, t < zs.length → w.cell? (x.add t) = some (.int .u64 (zs.getD t 0))) :
    ∃ w2, (∀ ty, (Builtin.copy_ #[29, 29] ty #[.slice (some ⟨w.heap.size, 0, none⟩) len len, .slice (some x) len cap]).run Trym.prog (w.alloc (.cells (madeCells #[.int .u64 0] len) 22)) = .ok (.int .i64 len) w2) ∧
      (∀ t, t < len → w2.cell? ⟨w.heap.size, t, none⟩ = some (.int .u64 (zs.getD t 0))) ∧ Below w.heap.size w w2 := by
  obtain ⟨w2, h1, h2, h3, h4⟩ := copy_made (P := Trym.prog) 29 22 (.int .u64 0) Trym.underlying29 Trym.size22 w x len cap (row zs len) (row_len zs len (by omega))
    (fun t v hv => by obtain ⟨ht, rfl⟩ := row_at zs len t v hv; exact hcell t (by omega)) (row_one zs len)
  refine ⟨w2, h1, fun t ht => ?_, h4⟩
  have := row_get zs len t (by omega) ht
  simp [World.cell?, h2, this]

/-- The copy is made; then an index is out of its range: true. -/
theorem less_out (x : Addr) (len cap : Nat) (zs : List Int) (i j k : Int) (w : World) (hlen : len ≤ 65536) (hlc : len ≤ cap) (hz : zs.length = cap)
    (hcell : ∀ t, t < zs.length → w.cell? (x.add t) = some (.int .u64 (zs.getD t 0))) (h : ¬ (0 ≤ i ∧ i < len ∧ 0 ≤ j ∧ j < len ∧ 0 ≤ k ∧ k < len)) :
    Calls Trym.prog 5 #[.slice (some x) len cap, .int .i64 i, .int .i64 j, .int .i64 k] w fun e w' => e = .returned (.bool true) ∧ Below w.heap.size w w' := by
  have hmk := run_make_row' (P := Trym.prog) 29 22 (.int .u64 0) 8 Trym.underlying29 Trym.info22 rfl .i64 .i64 len (by omega) (by omega)
  have hne := fun (w : World) (a : Option Addr) (n c : Nat) => run_neq_slice_nil_any (P := Trym.prog) w 29 22 a n c 0 0 Trym.underlying29
  obtain ⟨w2, hcp, _, hb⟩ := copied x len cap zs w hlc hz hcell
  clear hcell hz hlc
  have HB : Hid (Below w.heap.size w w2) := hb
  clear hb
  by_cases i0 : 0 ≤ i
  · by_cases i1 : i < len
    · by_cases j0 : 0 ≤ j
      · by_cases j1 : j < len
        · by_cases k0 : 0 ≤ k
          · have k1 : (len : Int) ≤ k := by omega
            clear h
            go_enter Trym.func5, Trym.ntmps5
            go_wp2_with (go_at_call 12; refine (bytes_yes _ _ _ _ _ _ _ (by omega)).mono ?_; rintro e w' ⟨rfl, rfl⟩)
            go_ret
            exact ⟨rfl, HB.out⟩
          · clear h
            go_enter Trym.func5, Trym.ntmps5
            go_wp2_with (go_at_call 12; refine (bytes_yes _ _ _ _ _ _ _ (by omega)).mono ?_; rintro e w' ⟨rfl, rfl⟩)
            go_ret
            exact ⟨rfl, HB.out⟩
        · clear h
          go_enter Trym.func5, Trym.ntmps5
          go_wp2_with (go_at_call 12; refine (bytes_yes _ _ _ _ _ _ _ (by omega)).mono ?_; rintro e w' ⟨rfl, rfl⟩)
          go_ret
          exact ⟨rfl, HB.out⟩
      · clear h
        go_enter Trym.func5, Trym.ntmps5
        go_wp2_with (go_at_call 12; refine (bytes_yes _ _ _ _ _ _ _ (by omega)).mono ?_; rintro e w' ⟨rfl, rfl⟩)
        go_ret
        exact ⟨rfl, HB.out⟩
    · clear h
      go_enter Trym.func5, Trym.ntmps5
      go_wp2_with (go_at_call 12; refine (bytes_yes _ _ _ _ _ _ _ (by omega)).mono ?_; rintro e w' ⟨rfl, rfl⟩)
      go_ret
      exact ⟨rfl, HB.out⟩
  · clear h
    go_enter Trym.func5, Trym.ntmps5
    go_wp2_with (go_at_call 12; refine (bytes_yes _ _ _ _ _ _ _ (by omega)).mono ?_; rintro e w' ⟨rfl, rfl⟩)
    go_ret
    exact ⟨rfl, HB.out⟩
end Go.Proofs.Qxb6614601aMods
