import Derived.Test.Qxb6614915aModsMember
import Derived.Test.Qxb6614915aModsSet
import Derived.Test.Qxb6614915aModsCopy
namespace Go.Proofs.Qxb6614915aMods
open Go.RowKit Go.Maps Go.WideMaps
set_option linter.unusedVariables false

theorem getD_mem (ss : List ByteArray) (k : Nat) (h : k < ss.length) : ss.getD k ByteArray.empty ∈ ss := by
  rw [List.getD_eq_getElem?_getD, List.getElem?_eq_getElem h]; exact List.getElem_mem h
theorem law : Keyed Trym.prog 9 := string_keyed Trym.underlying9
theorem run_makeMap_hint (n : Int) (w : World) : (Instr.makeMap 48 (some (.int .i64 n))).run Trym.prog w = .ok (.map (some w.heap.size)) (w.alloc (.map #[] 0)) := by
  simp [Instr.makeMap, run_underlying Trym.underlying48]
  rfl

/-- What the loop keeps: the struct's block, the map's block after k rounds, all that was there before. -/
structure Inv (w wr : World) (r : ByteArray) (u : DataW Unit) (ss : List ByteArray) (k : Nat) : Prop where
  box : wr.heap[w.heap.size]? = some (.cells #[.string r, .map (some (w.heap.size + 1)), .slice none 0 0] 50 (0, 0))
  own : wr.ownsMap Trym.prog 9 (plainElem Trym.prog 51) (w.heap.size + 1) k (D u ss k)
  bel : Below w.heap.size w wr

theorem inv_start (w : World) (r : ByteArray) (u : DataW Unit) (ss : List ByteArray) :
    Inv w ((w.alloc (.cells #[.string r, .map (some (w.heap.size + 1)), .slice none 0 0] 50)).alloc (.map #[] 0)) r u ss 0 := by
  refine ⟨?_, ?_, ((Below.refl _ _).alloc (Nat.le_refl _) _).alloc (by simp) _⟩
  · rw [Below.heap_alloc _ _ _ (by simp)]; exact heap_alloc_new _ _
  · have := World.ownsMap_made (w.alloc (.cells #[.string r, .map (some (w.heap.size + 1)), .slice none 0 0] 50)) Trym.prog 9 (plainElem (H := Unit) Trym.prog 51)
    simpa [D_zero] using this

theorem inv_step {w wr w1 : World} {r : ByteArray} {u : DataW Unit} {ss : List ByteArray} {k : Nat} (h : Inv w wr r u ss k) (hk : k < ss.length)
    (ho : w1.ownsMap Trym.prog 9 (plainElem Trym.prog 51) (w.heap.size + 1) (k + 1) ((D u ss k).put (key (ss.getD k ByteArray.empty)) u)) (hg : wr.drew.grownBy w1 (some (w.heap.size + 1))) : Inv w w1 r u ss (k + 1) := by
  have hlt : w.heap.size + 1 < wr.heap.size := h.own.lt
  refine ⟨?_, by rw [D_step u ss k hk]; exact ho, h.bel.drew.grown hg (by show w.heap.size ≤ wr.heap.size; omega) (fun j hj => by cases hj; omega)⟩
  rw [hg.block w.heap.size (by show w.heap.size < wr.heap.size; omega) (by simp)]
  exact h.box

theorem cell_of_block {w : World} {g : Nat} {c : Array Value} {t : TypeId} {fr : Nat × Nat} (h : w.heap[g]? = some (.cells c t fr)) (j : Nat) : w.cell? ⟨g, j, none⟩ = c[j]? := by
  simp [World.cell?, h]

theorem owns_of_block {P : Program} {k : TypeId} {R : Value → Option (DataW Unit × List MemPlace)} {w w' : World} {b n : Nat} {D : DataW Unit} (h : w.ownsMap P k R b n D) (e : w'.heap[b]? = w.heap[b]?) : w'.ownsMap P k R b n D := by
  obtain ⟨es, clock, hb, rest⟩ := h
  exact ⟨es, clock, e.trans hb, rest⟩
theorem addr_add (b o j : Nat) : (⟨b, o, none⟩ : Addr).add j = ⟨b, o + j, none⟩ := by
  by_cases h : j = 0
  · subst h; simp [Addr.add]
  · simp [Addr.add, h]
theorem cell_set_same {w : World} {a : Addr} {v : Value} (h : w.cell? a = some v) (u : Value) : (w.setCell a u).cell? a = some u :=
  World.cell?_setCell_same w a u h
theorem cell_set_other {w : World} {a c : Addr} {u : Value} (h : c ≠ a) : (w.setCell a u).cell? c = w.cell? c :=
  World.cell?_setCell_other _ _ _ _ (fun e => h e.symm)
theorem Trym.info9 : (Trym.prog.info? 9).map (fun i => (i.zero, i.size, i.bytes)) = some (some (.string ByteArray.empty), 1, 16) := by kernel_rfl
theorem Trym.size9 : (Trym.prog.info? 9).map (·.size) = some 1 := by kernel_rfl

set_option maxHeartbeats 1000000 in
theorem new_map (r pr : ByteArray) (a a' : Option Addr) (n c n' c' : Nat) (ss ss' : List ByteArray) (w : World) (hl : ss.length = n) (hn : n ≤ 65537) (hr : Row w a ss) (hz : ∀ s ∈ ss, s.size ≤ maxLen) (hpr : pr.size ≤ maxLen)
    (hl' : ss'.length = n') (hn' : n' ≤ 65537) (hr' : Row w a' ss') (h0 : 0 < n) :
    Calls Trym.prog 18 #[.string r, .slice a n c, .string pr, .slice a' n' c'] w fun e w' => e = .returned (.pointer (some ⟨w.heap.size, 0, none⟩)) ∧ Member w' w.heap.size (dc ss) n' ∧ Below w.heap.size w w' := by
  have HR : Hid (Row w a ss) := hr
  have HL : Hid (ss.length = n) := hl
  have HR' : Hid (Row w a' ss') := hr'
  have HL' : Hid (ss'.length = n') := hl'
  have HZ : Hid (∀ s ∈ ss, s.size ≤ maxLen) := hz
  have HP : Hid (pr.size ≤ maxLen) := hpr
  have hmm := run_makeMap_hint
  clear hr hl hr' hl' hz hpr
  go_enter Trym.func18, Trym.ntmps18
  go_wp2
  go_loopw [10] (fun i wr => ∃ k : Nat, k ≤ n ∧ i = .int .i64 k ∧ Inv w wr r (.lit (.string pr.data.toList)) ss k) (fun i _ => n - (intOf i).toNat)
  case atStart => exact ⟨0, Nat.zero_le _, rfl, inv_start _ _ _ _⟩
  case round =>
    obtain ⟨k, hk, rfl, hinv⟩ := hrel
    by_cases hlt : k < n
    · have hlt' : k < ss.length := by rw [HL.out]; exact hlt
      have hk1 : (k : Int) < (n : Int) := by omega
      obtain ⟨b, off, rfl, hcell⟩ := HR.out k hlt'
      have hc := hinv.bel.cell (World.block_lt_of_cell? w _ hcell)
      rw [hcell] at hc
      have hbox : wr.cell? ⟨w.heap.size, 1, none⟩ = some (.map (some (w.heap.size + 1))) := by rw [cell_of_block hinv.box]; rfl
      obtain ⟨w1, hrun, hown1, hgrow1⟩ := hinv.own.drew.update law Trym.underlying48 (by unfold maxLen; omega) (keyOf_string_mk Trym.underlying9 (HZ.out _ (getD_mem ss k hlt'))) (plainElem_string Trym.underlying51 HP.out)
      have HI : Hid (Inv w w1 r (.lit (.string pr.data.toList)) ss (k + 1)) := inv_step hinv hlt' hown1 hgrow1
      clear hown1 hgrow1 hinv hcell
      generalize ss.getD k ByteArray.empty = x at hc hrun
      go_wp2
      go_region
      all_goals go_wp2
      all_goals
        go_roundw
        case rel => exact ⟨k + 1, by omega, by go_num, HI.out⟩
        case measure => simp [intOf]; omega
    · obtain rfl : k = n := by omega
      have hd : dcTo ss k = dc ss := by rw [dc, HL.out]
      have hsz := D_size (.lit (.string pr.data.toList)) ss k (by rw [HL.out]; exact Nat.le_refl _)
      have hlenm : ∀ W : World, W.heap[w.heap.size + 1]? = wr.heap[w.heap.size + 1]? → ∀ ty nq, (Builtin.len_ #[48] ty #[.map (some (w.heap.size + 1))]).run Trym.prog (W.drewN nq) = .ok (.int .i64 (dc ss)) (W.drewN nq) := fun W hW ty nq => by
        rw [← hd, ← hsz]
        exact (owns_of_block (w' := W.drewN nq) hinv.own hW).len Trym.underlying48 ty
      have HLM : Hid (∀ W : World, W.heap[w.heap.size + 1]? = wr.heap[w.heap.size + 1]? → ∀ ty nq, (Builtin.len_ #[48] ty #[.map (some (w.heap.size + 1))]).run Trym.prog (W.drewN nq) = .ok (.int .i64 (dc ss)) (W.drewN nq)) := hlenm
      have HI : Hid (Inv w wr r (.lit (.string pr.data.toList)) ss k) := hinv
      clear hlenm hsz hd hinv
      have hlt1 := HI.out.own.lt
      by_cases h1 : n' = 0
      · subst h1
        go_wp2
        go_ret
        exact ⟨rfl, ⟨_, none, 0, (cell_of_block HI.out.box 1), (cell_of_block HI.out.box 2), HLM.out wr rfl⟩, HI.out.bel⟩
      · have h1' : 0 < n' := by omega
        obtain ⟨b', off', rfl, _⟩ := HR'.out 0 (by rw [HL'.out]; exact h1')
        have hmk := run_make_row' (P := Trym.prog) 34 9 (.string ByteArray.empty) 16 Trym.underlying34 Trym.info9 rfl .i64 .i64 n' (by omega) (by omega)
        obtain ⟨w2, hcp, h2, h3, h4⟩ := copy_made (P := Trym.prog) 34 9 (.string ByteArray.empty) Trym.underlying34 Trym.size9 wr ⟨b', off', none⟩ n' c' (ss'.map Value.string) (by rw [List.length_map, HL'.out])
          (fun t v hv => by
            rw [List.getElem?_map, Option.map_eq_some_iff] at hv
            obtain ⟨s, hs, rfl⟩ := hv
            obtain ⟨ht, hs2⟩ := List.getElem?_eq_some_iff.1 hs
            obtain ⟨b1, o1, e1, hc1⟩ := HR'.out t ht
            cases e1
            rw [addr_add, HI.out.bel.cell (World.block_lt_of_cell? w _ hc1), hc1, List.getD_eq_getElem?_getD, hs]; rfl)
          (fun v hv => by obtain ⟨s, _, rfl⟩ := List.mem_map.1 hv; rfl)
        have hbox2 : w2.heap[w.heap.size]? = some (.cells #[.string r, .map (some (w.heap.size + 1)), .slice none 0 0] 50 (0, 0)) := by
          rw [h4.block _ (by omega)]; exact HI.out.box
        have hc2 : w2.cell? ⟨w.heap.size, 2, none⟩ = some (.slice none 0 0) := cell_of_block hbox2 2
        have hf2 : w2.frozen? ⟨w.heap.size, 2, none⟩ = false := by simp [World.frozen?, hbox2]
        have HF : Hid (Member (w2.setCell ⟨w.heap.size, 2, none⟩ (.slice (some ⟨wr.heap.size, 0, none⟩) n' n')) w.heap.size (dc ss) n' ∧ Below w.heap.size w (w2.setCell ⟨w.heap.size, 2, none⟩ (.slice (some ⟨wr.heap.size, 0, none⟩) n' n'))) := by
          refine ⟨⟨_, some ⟨wr.heap.size, 0, none⟩, n', ?_, ?_, HLM.out _ ?_⟩, (HI.out.bel.trans (h4.mono (by omega))).setCell (Nat.le_refl _) _⟩
          · rw [cell_set_other (by simp)]; exact cell_of_block hbox2 1
          · exact cell_set_same hc2 _
          · rw [Below.heap_setCell _ _ _ _ (by simp)]; exact h4.block _ hlt1
        clear hbox2 h2 h3 h4
        go_wp2
        go_ret
        exact ⟨rfl, HF.out⟩
end Go.Proofs.Qxb6614915aMods
