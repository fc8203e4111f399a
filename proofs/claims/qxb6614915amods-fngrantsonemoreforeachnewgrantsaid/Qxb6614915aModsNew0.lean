import Derived.Test.Qxb6614915aModsNew
namespace Go.Proofs.Qxb6614915aMods
open Go.RowKit Go.Maps Go.WideMaps
set_option linter.unusedVariables false

/-- No project: no map. -/
theorem new_none (r pr : ByteArray) (a a' : Option Addr) (c n' c' : Nat) (ss' : List ByteArray) (w : World)
    (hl' : ss'.length = n') (hn' : n' ≤ 65537) (hr' : Row w a' ss') :
    Calls Trym.prog 18 #[.string r, .slice a 0 c, .string pr, .slice a' n' c'] w fun e w' => e = .returned (.pointer (some ⟨w.heap.size, 0, none⟩)) ∧ Member w' w.heap.size 0 n' ∧ Below w.heap.size w w' := by
  have HR' : Hid (Row w a' ss') := hr'
  have HL' : Hid (ss'.length = n') := hl'
  clear hr' hl'
  have HLN : Hid (∀ (W : World) ty nq, (Builtin.len_ #[48] ty #[.map none]).run Trym.prog (W.drewN nq) = .ok (.int .i64 (0 : Nat)) (W.drewN nq)) := fun W ty nq => Maps.len_nil Trym.underlying48 ty
  by_cases h1 : n' = 0
  · subst h1
    go_enter Trym.func18, Trym.ntmps18
    go_wp2
    go_ret
    exact ⟨rfl, ⟨none, none, 0, by simp, by simp, HLN.out _⟩, (Below.refl _ _).alloc (Nat.le_refl _) _⟩
  · have h1' : 0 < n' := by omega
    obtain ⟨b', off', rfl, _⟩ := HR'.out 0 (by rw [HL'.out]; exact h1')
    obtain ⟨wr, hwr⟩ : ∃ wr : World, wr = w.alloc (.cells #[.string r, .map none, .slice none 0 0] 50) := ⟨_, rfl⟩
    have hbel : Below w.heap.size w wr := by rw [hwr]; exact (Below.refl _ _).alloc (Nat.le_refl _) _
    have hszr : wr.heap.size = w.heap.size + 1 := by rw [hwr]; simp
    have hmk := run_make_row' (P := Trym.prog) 34 9 (.string ByteArray.empty) 16 Trym.underlying34 Trym.info9 rfl .i64 .i64 n' (by omega) (by omega)
    obtain ⟨w2, hcp, h2, h3, h4⟩ := copy_made (P := Trym.prog) 34 9 (.string ByteArray.empty) Trym.underlying34 Trym.size9 wr ⟨b', off', none⟩ n' c' (ss'.map Value.string) (by rw [List.length_map, HL'.out])
      (fun t v hv => by
        rw [List.getElem?_map, Option.map_eq_some_iff] at hv
        obtain ⟨s, hs, rfl⟩ := hv
        obtain ⟨ht, hs2⟩ := List.getElem?_eq_some_iff.1 hs
        obtain ⟨b1, o1, e1, hc1⟩ := HR'.out t ht
        cases e1
        rw [addr_add, hbel.cell (World.block_lt_of_cell? w _ hc1), hc1, List.getD_eq_getElem?_getD, hs]; rfl)
      (fun v hv => by obtain ⟨s, _, rfl⟩ := List.mem_map.1 hv; rfl)
    have hbox : wr.heap[w.heap.size]? = some (.cells #[.string r, .map none, .slice none 0 0] 50 (0, 0)) := by rw [hwr]; exact heap_alloc_new _ _
    have hbox2 : w2.heap[w.heap.size]? = some (.cells #[.string r, .map none, .slice none 0 0] 50 (0, 0)) := by
      rw [h4.block _ (by omega)]; exact hbox
    have hc2 : w2.cell? ⟨w.heap.size, 2, none⟩ = some (.slice none 0 0) := cell_of_block hbox2 2
    have hf2 : w2.frozen? ⟨w.heap.size, 2, none⟩ = false := by simp [World.frozen?, hbox2]
    have HF : Hid (Member (w2.setCell ⟨w.heap.size, 2, none⟩ (.slice (some ⟨w.heap.size + 1, 0, none⟩) n' n')) w.heap.size 0 n' ∧ Below w.heap.size w (w2.setCell ⟨w.heap.size, 2, none⟩ (.slice (some ⟨w.heap.size + 1, 0, none⟩) n' n'))) := by
      refine ⟨⟨none, some ⟨w.heap.size + 1, 0, none⟩, n', ?_, ?_, HLN.out _⟩, (hbel.trans (h4.mono (by omega))).setCell (Nat.le_refl _) _⟩
      · rw [cell_set_other (by simp)]; exact cell_of_block hbox2 1
      · exact cell_set_same hc2 _
    rw [hszr, hwr] at hcp
    clear hbox hbox2 h2 h3 h4 hwr hszr hbel
    go_enter Trym.func18, Trym.ntmps18
    go_wp2
    go_ret
    exact ⟨rfl, HF.out⟩

/-- 'ZZnewMemberGrants', whatever the slices. -/
theorem new_any (r pr : ByteArray) (a a' : Option Addr) (n c n' c' : Nat) (ss ss' : List ByteArray) (w : World) (hl : ss.length = n) (hn : n ≤ 65537) (hr : Row w a ss) (hz : ∀ s ∈ ss, s.size ≤ maxLen) (hpr : pr.size ≤ maxLen)
    (hl' : ss'.length = n') (hn' : n' ≤ 65537) (hr' : Row w a' ss') :
    Calls Trym.prog 18 #[.string r, .slice a n c, .string pr, .slice a' n' c'] w fun e w' => e = .returned (.pointer (some ⟨w.heap.size, 0, none⟩)) ∧ Member w' w.heap.size (dc ss) n' ∧ Below w.heap.size w w' := by
  by_cases h0 : n = 0
  · have : dc ss = 0 := by have := dc_le ss; omega
    rw [this]; subst h0
    exact new_none r pr a a' c n' c' ss' w hl' hn' hr'
  · exact new_map r pr a a' n c n' c' ss ss' w hl hn hr hz hpr hl' hn' hr' (by omega)
end Go.Proofs.Qxb6614915aMods
