import Derived.Test.Qxb6614915aModsFill
namespace Go.Proofs.Qxb6614915aMods
open Go.RowKit Go.Maps Go.WideMaps
set_option linter.unusedVariables false

set_option maxRecDepth 100000 in
set_option maxHeartbeats 4000000 in
theorem more_some_nil (r pr p q : ByteArray) (x : Addr) (n c : Nat) (ss : List ByteArray)  (w : World) (hr0 : r.size ≤ 65536) (hpr : pr.size ≤ 65536) (hp0 : p.size ≤ 65536) (hq0 : q.size ≤ 65536) (hl : ss.length = n) (hn : n ≤ 65536) (hr : Row w (some x) ss) (hz : ∀ s ∈ ss, s.size ≤ maxLen)  :
    Calls Trym.prog 5 #[.string r, .slice (some x) n c, .string pr, .slice none 0 0, .string p, .string q] w fun e w' => e = .returned (.bool true) ∧ Below w.heap.size w w' := by
  have hne := fun (w : World) (a : Option Addr) (n c : Nat) => run_neq_slice_nil_any (P := Trym.prog) w 34 9 a n c 0 0 Trym.underlying34
  have hmk := run_make_row' (P := Trym.prog) 34 9 (.string ByteArray.empty) 16 Trym.underlying34 Trym.info9 rfl .i64 .i64 n (by omega) (by omega)
  obtain ⟨w1, hcp, q1, s1, b1⟩ := copied x n c ss w hl hr
  have hmkp := run_make_row' (P := Trym.prog) 34 9 (.string ByteArray.empty) 16 Trym.underlying34 Trym.info9 rfl .i64 .i64 (n + 1) (by omega) (by omega)
  rw [show ((n + 1 : Nat) : Int) = (n : Int) + 1 from by omega] at hmkp
  have b2 : Below w1.heap.size w1 w1 := Below.refl _ _
  have hmkq := run_make_row' (P := Trym.prog) 34 9 (.string ByteArray.empty) 16 Trym.underlying34 Trym.info9 rfl .i64 .i64 1 (by omega) (by omega)
  rw [show ((1 : Nat) : Int) = 1 from rfl] at hmkq
  have HQ1 : Hid (Row w1 (some ⟨w.heap.size, 0, none⟩) ss) := q1.below b2
  have HQ2 : Hid (Row w1 none ([] : List ByteArray)) := row_nil _ _
  have HB : Hid (Below w.heap.size w w1) := b1.trans (b2.mono b1.size)
  have HL : Hid (ss.length = n ∧ ([] : List ByteArray).length = 0) := ⟨hl, rfl⟩
  have HZ : Hid (∀ s ∈ ss, s.size ≤ maxLen) := hz
  have Hzz : Hid (Row w (some x) ss ∧ Row w none ([] : List ByteArray)) := ⟨hr, row_nil _ _⟩
  have HZ2 : Hid (∀ s ∈ ss ++ [p], s.size ≤ maxLen) := fun s hs => by
    rcases List.mem_append.1 hs with h | h
    · exact HZ.out s h
    · rw [List.mem_singleton.1 h]; unfold maxLen; omega
  have HL2 : Hid ((ss ++ [p]).length = n + 1 ∧ (([] : List ByteArray) ++ [q]).length = 0 + 1) := ⟨by rw [List.length_append, HL.out.1]; rfl, by rw [List.length_append, HL.out.2]; rfl⟩
  have HD : Hid (dc (ss ++ [p]) = dc ss + if mem ss p then 0 else 1) := dc_snoc _ _
  have d1 : dc ss ≤ 65536 := Nat.le_trans (dc_le _) (by rw [HL.out.1]; omega)
  have d2 : dc (ss ++ [p]) ≤ 65537 := Nat.le_trans (dc_le _) (by rw [HL2.out.1]; omega)
  clear b1 b2 q1 s1 hl hz hr
  go_enter Trym.func5, Trym.ntmps5
  go_wp2_with (go_at_call 15; refine (zz1_any _ _ _ _ _ _ _ _ _ _ ss ([] : List ByteArray) _ HL.out.1 (by unfold maxLen; omega) Hzz.out.1 HL.out.2 (by unfold maxLen; omega) Hzz.out.2).mono ?_; rintro e w' ⟨⟨zb, rfl⟩, rfl⟩)
  · go_ret
    exact ⟨rfl, Below.refl _ _⟩
  refine (bytesOf_any _ _ _ ss _ _ HL.out.1 (by omega) HQ1.out).mono ?_
  rintro e w' ⟨⟨T1, rfl⟩, rfl⟩
  go_wp2_with fail
  · go_ret
    exact ⟨rfl, HB.out⟩
  refine (bytesOf_any _ _ _ ([] : List ByteArray) _ _ HL.out.2 (by omega) HQ2.out).mono ?_
  rintro e w' ⟨⟨T2, rfl⟩, rfl⟩
  go_wp2_with fail
  · go_ret
    exact ⟨rfl, HB.out⟩
  go_loopw [17] (fun v wr => ∃ j : Nat, j ≤ n ∧ v = .int .i64 j ∧ Hid (wr.rowIs w1.heap.size 9 (n + 1) (fill ss j)) ∧ Hid (Below w1.heap.size w1 wr)) (fun v _ => n - (intOf v).toNat)
  case atStart => exact ⟨0, Nat.zero_le _, rfl, fill_start _ _ _, (Below.refl _ _).alloc (Nat.le_refl _) _⟩
  case round =>
    obtain ⟨j, hj, rfl, HF, HW⟩ := hrel
    by_cases hlt : j < n
    · have hj1 : (j : Int) < (n : Int) := by omega
      obtain ⟨bb, oo, ee, hcell⟩ := HQ1.out j (by rw [HL.out.1]; exact hlt)
      cases ee
      rw [Nat.zero_add] at hcell
      have hc := HW.out.cell (World.block_lt_of_cell? _ _ hcell)
      rw [hcell] at hc
      have hc2 := HF.out.cell (i := j) (by omega)
      have hf2 := HF.out.frozen j
      have HS := fill_step HF.out
      have HS2 : Hid ((wr.setCell ⟨w1.heap.size, j, none⟩ (.string (ss.getD j ByteArray.empty))).rowIs w1.heap.size 9 (n + 1) (fill ss (j + 1))) := HS
      have HW2 : Hid (Below w1.heap.size w1 (wr.setCell ⟨w1.heap.size, j, none⟩ (.string (ss.getD j ByteArray.empty)))) := HW.out.setCell (Nat.le_refl _) _
      clear HS hcell
      generalize ss.getD j ByteArray.empty = y at hc HS2 HW2
      have hsome : (wr.cell? ⟨w1.heap.size, j, none⟩).isSome = true := by rw [hc2]; rfl
      clear HF HW
      obtain ⟨old, hold⟩ : ∃ old, wr.cell? ⟨w1.heap.size, j, none⟩ = some old := ⟨_, hc2⟩
      clear hc2 hsome
      go_wp2
      go_roundw
      case rel => exact ⟨j + 1, by omega, by go_num, HS2, HW2⟩
      case measure => simp [intOf]; omega
    obtain rfl : n = j := by omega

    have hc2 : wr.cell? ⟨w1.heap.size, n, none⟩ = some (fill ss n n) := HF.out.cell (i := n) (by omega)
    obtain ⟨old, hold⟩ : ∃ old, wr.cell? ⟨w1.heap.size, n, none⟩ = some old := ⟨_, hc2⟩
    have hf2 := HF.out.frozen n
    obtain ⟨W5, hW5⟩ : ∃ W5 : World, wr.setCell ⟨w1.heap.size, n, none⟩ (.string p) = W5 := ⟨_, rfl⟩
    have HB5 : Hid (Below w1.heap.size w1 W5) := by rw [← hW5]; exact HW.out.setCell (Nat.le_refl _) _
    have HE : Hid (Row W5 (some ⟨w1.heap.size, 0, none⟩) (ss ++ [p])) := by rw [← hW5]; exact fill_end HL.out.1 HF.out p
    have HR1 : Hid (Row W5 (some ⟨w.heap.size, 0, none⟩) ss) := HQ1.out.below HB5.out
    have HR2 : Hid (Row W5 none ([] : List ByteArray)) := HQ2.out.below HB5.out
    have HBw : Hid (Below w.heap.size w W5) := HB.out.trans (HB5.out.mono HB.out.size)
    clear hc2 HF HW HB5 HQ1 HQ2 HB
    go_wp2_with fail
    clear hW5 hold hf2

    go_loopw [19] (fun v wr => ∃ j : Nat, j ≤ 0 ∧ v = .int .i64 j ∧ Hid (wr.rowIs W5.heap.size 9 (1) (fill ([] : List ByteArray) j)) ∧ Hid (Below W5.heap.size W5 wr)) (fun v _ => 0 - (intOf v).toNat)
    case atStart => exact ⟨0, Nat.zero_le _, rfl, fill_start _ _ _, (Below.refl _ _).alloc (Nat.le_refl _) _⟩
    case round =>
      obtain ⟨j, hj, rfl, HF, HW⟩ := hrel
      obtain rfl : j = 0 := by omega
      have hc2 : wr.cell? ⟨W5.heap.size, 0, none⟩ = some (fill ([] : List ByteArray) 0 0) := HF.out.cell (i := 0) (by omega)
      obtain ⟨old, hold⟩ : ∃ old, wr.cell? ⟨W5.heap.size, 0, none⟩ = some old := ⟨_, hc2⟩
      have hf2 := HF.out.frozen 0
      obtain ⟨W6, hW6⟩ : ∃ W6 : World, wr.setCell ⟨W5.heap.size, 0, none⟩ (.string q) = W6 := ⟨_, rfl⟩
      have HB6 : Hid (Below W5.heap.size W5 W6) := by rw [← hW6]; exact HW.out.setCell (Nat.le_refl _) _
      have HE2 : Hid (Row W6 (some ⟨W5.heap.size, 0, none⟩) (([] : List ByteArray) ++ [q])) := by rw [← hW6]; exact fill_end HL.out.2 HF.out q
      have HE1 : Hid (Row W6 (some ⟨w1.heap.size, 0, none⟩) (ss ++ [p])) := HE.out.below HB6.out
      have HS1 : Hid (Row W6 (some ⟨w.heap.size, 0, none⟩) ss) := HR1.out.below HB6.out
      have HS2 : Hid (Row W6 none ([] : List ByteArray)) := HR2.out.below HB6.out
      have HBx : Hid (Below w.heap.size w W6) := HBw.out.trans (HB6.out.mono HBw.out.size)
      clear hc2 HF HW HB6 HR1 HR2 HBw HE
      go_wp2_with fail
      clear hW6 hold hf2
      refine (new_any _ _ _ _ _ _ _ _ ss ([] : List ByteArray) _ HL.out.1 (by omega) HS1.out HZ.out (by unfold maxLen; omega) HL.out.2 (by omega) HS2.out).mono ?_
      rintro e w3 ⟨rfl, m3, b3⟩
      go_wp2_with fail
      refine (grants_any _ _ _ _ (by omega) (by omega) m3).mono ?_
      rintro e w4 ⟨rfl, q4, hw4⟩
      have HU1 : Hid (Row w4 (some ⟨w.heap.size, 0, none⟩) ss) := by subst hw4; exact (HS1.out.below b3).drewN _
      have HU2 : Hid (Row w4 (some ⟨w1.heap.size, 0, none⟩) (ss ++ [p])) := by subst hw4; exact (HE1.out.below b3).drewN _
      have HU3 : Hid (Row w4 (some ⟨W5.heap.size, 0, none⟩) (([] : List ByteArray) ++ [q])) := by subst hw4; exact (HE2.out.below b3).drewN _
      have HB4 : Hid (Below w.heap.size w w4) := by subst hw4; exact below_drewN (HBx.out.trans (b3.mono HBx.out.size)) _
      clear m3 b3 hw4 HS1 HS2 HE1 HE2 HBx
      go_wp2_with fail
      refine (new_any _ _ _ _ _ _ _ _ (ss ++ [p]) (([] : List ByteArray) ++ [q]) _ HL2.out.1 (by omega) HU2.out HZ2.out (by unfold maxLen; omega) HL2.out.2 (by omega) HU3.out).mono ?_
      rintro e w5 ⟨rfl, m5, b5⟩
      go_wp2_with fail
      refine (grants_any _ _ _ _ (by omega) (by omega) m5).mono ?_
      rintro e w6 ⟨rfl, q6, hw6⟩
      have HV1 : Hid (Row w6 (some ⟨w.heap.size, 0, none⟩) ss) := by subst hw6; exact (HU1.out.below b5).drewN _
      have HB6 : Hid (Below w.heap.size w w6) := by subst hw6; exact below_drewN (HB4.out.trans (b5.mono HB4.out.size)) _
      clear m5 b5 hw6 HU1 HU2 HU3 HB4
      go_wp2_with fail
      obtain ⟨mb, hmb⟩ : ∃ mb : Bool, mem ss p = mb := ⟨_, rfl⟩
      have HM : Hid (mem ss p = mb) := hmb
      clear hmb
      refine (contains_is _ _ _ ss _ mb _ HL.out.1 (by omega) HV1.out HM.out).mono ?_
      rintro e w7 ⟨rfl, hw7⟩
      subst hw7
      cases mb
      all_goals
        go_wp2_with fail
        refine (distinct_any _ _ _ ss _ HL.out.1 (by omega) (by omega) HV1.out).mono ?_
        rintro e w9 ⟨rfl, q9, hw9⟩
        have HB9 : Hid (Below w.heap.size w w9) := by subst hw9; exact below_drewN HB6.out _
        clear hw9
        go_wp2
        go_ret
        refine ⟨ret_bool ?_, HB9.out⟩
        have hd := HD.out
        rw [HM.out] at hd
        simp only [Bool.false_eq_true, if_false, if_true, Nat.add_zero] at hd
        rw [beq_iff_eq]
        omega

set_option maxRecDepth 100000 in
set_option maxHeartbeats 4000000 in
theorem more_some_some (r pr p q : ByteArray) (x : Addr) (n c : Nat) (ss : List ByteArray) (x' : Addr) (n' c' : Nat) (ss' : List ByteArray) (w : World) (hr0 : r.size ≤ 65536) (hpr : pr.size ≤ 65536) (hp0 : p.size ≤ 65536) (hq0 : q.size ≤ 65536) (hl : ss.length = n) (hn : n ≤ 65536) (hr : Row w (some x) ss) (hz : ∀ s ∈ ss, s.size ≤ maxLen) (hl' : ss'.length = n') (hn' : n' ≤ 65536) (hr' : Row w (some x') ss') :
    Calls Trym.prog 5 #[.string r, .slice (some x) n c, .string pr, .slice (some x') n' c', .string p, .string q] w fun e w' => e = .returned (.bool true) ∧ Below w.heap.size w w' := by
  have hne := fun (w : World) (a : Option Addr) (n c : Nat) => run_neq_slice_nil_any (P := Trym.prog) w 34 9 a n c 0 0 Trym.underlying34
  have hmk := run_make_row' (P := Trym.prog) 34 9 (.string ByteArray.empty) 16 Trym.underlying34 Trym.info9 rfl .i64 .i64 n (by omega) (by omega)
  obtain ⟨w1, hcp, q1, s1, b1⟩ := copied x n c ss w hl hr
  have hmkp := run_make_row' (P := Trym.prog) 34 9 (.string ByteArray.empty) 16 Trym.underlying34 Trym.info9 rfl .i64 .i64 (n + 1) (by omega) (by omega)
  rw [show ((n + 1 : Nat) : Int) = (n : Int) + 1 from by omega] at hmkp
  have hmk' := run_make_row' (P := Trym.prog) 34 9 (.string ByteArray.empty) 16 Trym.underlying34 Trym.info9 rfl .i64 .i64 n' (by omega) (by omega)
  obtain ⟨w2, hcp', q2, s2, b2⟩ := copied x' n' c' ss' w1 hl' (hr'.below b1)
  have hmkq := run_make_row' (P := Trym.prog) 34 9 (.string ByteArray.empty) 16 Trym.underlying34 Trym.info9 rfl .i64 .i64 (n' + 1) (by omega) (by omega)
  rw [show ((n' + 1 : Nat) : Int) = (n' : Int) + 1 from by omega] at hmkq
  have HQ1 : Hid (Row w2 (some ⟨w.heap.size, 0, none⟩) ss) := q1.below b2
  have HQ2 : Hid (Row w2 (some ⟨w1.heap.size, 0, none⟩) ss') := q2
  have HB : Hid (Below w.heap.size w w2) := b1.trans (b2.mono b1.size)
  have HL : Hid (ss.length = n ∧ ss'.length = n') := ⟨hl, hl'⟩
  have HZ : Hid (∀ s ∈ ss, s.size ≤ maxLen) := hz
  have Hzz : Hid (Row w (some x) ss ∧ Row w (some x') ss') := ⟨hr, hr'⟩
  have HZ2 : Hid (∀ s ∈ ss ++ [p], s.size ≤ maxLen) := fun s hs => by
    rcases List.mem_append.1 hs with h | h
    · exact HZ.out s h
    · rw [List.mem_singleton.1 h]; unfold maxLen; omega
  have HL2 : Hid ((ss ++ [p]).length = n + 1 ∧ (ss' ++ [q]).length = n' + 1) := ⟨by rw [List.length_append, HL.out.1]; rfl, by rw [List.length_append, HL.out.2]; rfl⟩
  have HD : Hid (dc (ss ++ [p]) = dc ss + if mem ss p then 0 else 1) := dc_snoc _ _
  have d1 : dc ss ≤ 65536 := Nat.le_trans (dc_le _) (by rw [HL.out.1]; omega)
  have d2 : dc (ss ++ [p]) ≤ 65537 := Nat.le_trans (dc_le _) (by rw [HL2.out.1]; omega)
  clear b1 b2 q1 s1 hl hz hr q2 s2 hl' hr'
  go_enter Trym.func5, Trym.ntmps5
  go_wp2_with (go_at_call 15; refine (zz1_any _ _ _ _ _ _ _ _ _ _ ss ss' _ HL.out.1 (by unfold maxLen; omega) Hzz.out.1 HL.out.2 (by unfold maxLen; omega) Hzz.out.2).mono ?_; rintro e w' ⟨⟨zb, rfl⟩, rfl⟩)
  · go_ret
    exact ⟨rfl, Below.refl _ _⟩
  refine (bytesOf_any _ _ _ ss _ _ HL.out.1 (by omega) HQ1.out).mono ?_
  rintro e w' ⟨⟨T1, rfl⟩, rfl⟩
  go_wp2_with fail
  · go_ret
    exact ⟨rfl, HB.out⟩
  refine (bytesOf_any _ _ _ ss' _ _ HL.out.2 (by omega) HQ2.out).mono ?_
  rintro e w' ⟨⟨T2, rfl⟩, rfl⟩
  go_wp2_with fail
  · go_ret
    exact ⟨rfl, HB.out⟩
  go_loopw [17] (fun v wr => ∃ j : Nat, j ≤ n ∧ v = .int .i64 j ∧ Hid (wr.rowIs w2.heap.size 9 (n + 1) (fill ss j)) ∧ Hid (Below w2.heap.size w2 wr)) (fun v _ => n - (intOf v).toNat)
  case atStart => exact ⟨0, Nat.zero_le _, rfl, fill_start _ _ _, (Below.refl _ _).alloc (Nat.le_refl _) _⟩
  case round =>
    obtain ⟨j, hj, rfl, HF, HW⟩ := hrel
    by_cases hlt : j < n
    · have hj1 : (j : Int) < (n : Int) := by omega
      obtain ⟨bb, oo, ee, hcell⟩ := HQ1.out j (by rw [HL.out.1]; exact hlt)
      cases ee
      rw [Nat.zero_add] at hcell
      have hc := HW.out.cell (World.block_lt_of_cell? _ _ hcell)
      rw [hcell] at hc
      have hc2 := HF.out.cell (i := j) (by omega)
      have hf2 := HF.out.frozen j
      have HS := fill_step HF.out
      have HS2 : Hid ((wr.setCell ⟨w2.heap.size, j, none⟩ (.string (ss.getD j ByteArray.empty))).rowIs w2.heap.size 9 (n + 1) (fill ss (j + 1))) := HS
      have HW2 : Hid (Below w2.heap.size w2 (wr.setCell ⟨w2.heap.size, j, none⟩ (.string (ss.getD j ByteArray.empty)))) := HW.out.setCell (Nat.le_refl _) _
      clear HS hcell
      generalize ss.getD j ByteArray.empty = y at hc HS2 HW2
      have hsome : (wr.cell? ⟨w2.heap.size, j, none⟩).isSome = true := by rw [hc2]; rfl
      clear HF HW
      obtain ⟨old, hold⟩ : ∃ old, wr.cell? ⟨w2.heap.size, j, none⟩ = some old := ⟨_, hc2⟩
      clear hc2 hsome
      go_wp2
      go_roundw
      case rel => exact ⟨j + 1, by omega, by go_num, HS2, HW2⟩
      case measure => simp [intOf]; omega
    obtain rfl : n = j := by omega

    have hc2 : wr.cell? ⟨w2.heap.size, n, none⟩ = some (fill ss n n) := HF.out.cell (i := n) (by omega)
    obtain ⟨old, hold⟩ : ∃ old, wr.cell? ⟨w2.heap.size, n, none⟩ = some old := ⟨_, hc2⟩
    have hf2 := HF.out.frozen n
    obtain ⟨W5, hW5⟩ : ∃ W5 : World, wr.setCell ⟨w2.heap.size, n, none⟩ (.string p) = W5 := ⟨_, rfl⟩
    have HB5 : Hid (Below w2.heap.size w2 W5) := by rw [← hW5]; exact HW.out.setCell (Nat.le_refl _) _
    have HE : Hid (Row W5 (some ⟨w2.heap.size, 0, none⟩) (ss ++ [p])) := by rw [← hW5]; exact fill_end HL.out.1 HF.out p
    have HR1 : Hid (Row W5 (some ⟨w.heap.size, 0, none⟩) ss) := HQ1.out.below HB5.out
    have HR2 : Hid (Row W5 (some ⟨w1.heap.size, 0, none⟩) ss') := HQ2.out.below HB5.out
    have HBw : Hid (Below w.heap.size w W5) := HB.out.trans (HB5.out.mono HB.out.size)
    clear hc2 HF HW HB5 HQ1 HQ2 HB
    go_wp2_with fail
    clear hW5 hold hf2

    go_loopw [19] (fun v wr => ∃ j : Nat, j ≤ n' ∧ v = .int .i64 j ∧ Hid (wr.rowIs W5.heap.size 9 (n' + 1) (fill ss' j)) ∧ Hid (Below W5.heap.size W5 wr)) (fun v _ => n' - (intOf v).toNat)
    case atStart => exact ⟨0, Nat.zero_le _, rfl, fill_start _ _ _, (Below.refl _ _).alloc (Nat.le_refl _) _⟩
    case round =>
      obtain ⟨j, hj, rfl, HF, HW⟩ := hrel
      by_cases hlt : j < n'
      · have hj1 : (j : Int) < (n' : Int) := by omega
        obtain ⟨bb, oo, ee, hcell⟩ := HR2.out j (by rw [HL.out.2]; exact hlt)
        cases ee
        rw [Nat.zero_add] at hcell
        have hc := HW.out.cell (World.block_lt_of_cell? _ _ hcell)
        rw [hcell] at hc
        have hc2 := HF.out.cell (i := j) (by omega)
        have hf2 := HF.out.frozen j
        have HS := fill_step HF.out
        have HS2 : Hid ((wr.setCell ⟨W5.heap.size, j, none⟩ (.string (ss'.getD j ByteArray.empty))).rowIs W5.heap.size 9 (n' + 1) (fill ss' (j + 1))) := HS
        have HW2 : Hid (Below W5.heap.size W5 (wr.setCell ⟨W5.heap.size, j, none⟩ (.string (ss'.getD j ByteArray.empty)))) := HW.out.setCell (Nat.le_refl _) _
        clear HS hcell
        generalize ss'.getD j ByteArray.empty = y at hc HS2 HW2
        have hsome : (wr.cell? ⟨W5.heap.size, j, none⟩).isSome = true := by rw [hc2]; rfl
        clear HF HW
        obtain ⟨old, hold⟩ : ∃ old, wr.cell? ⟨W5.heap.size, j, none⟩ = some old := ⟨_, hc2⟩
        clear hc2 hsome
        go_wp2
        go_roundw
        case rel => exact ⟨j + 1, by omega, by go_num, HS2, HW2⟩
        case measure => simp [intOf]; omega
      obtain rfl : n' = j := by omega
      have hc2 : wr.cell? ⟨W5.heap.size, n', none⟩ = some (fill ss' n' n') := HF.out.cell (i := n') (by omega)
      obtain ⟨old, hold⟩ : ∃ old, wr.cell? ⟨W5.heap.size, n', none⟩ = some old := ⟨_, hc2⟩
      have hf2 := HF.out.frozen n'
      obtain ⟨W6, hW6⟩ : ∃ W6 : World, wr.setCell ⟨W5.heap.size, n', none⟩ (.string q) = W6 := ⟨_, rfl⟩
      have HB6 : Hid (Below W5.heap.size W5 W6) := by rw [← hW6]; exact HW.out.setCell (Nat.le_refl _) _
      have HE2 : Hid (Row W6 (some ⟨W5.heap.size, 0, none⟩) (ss' ++ [q])) := by rw [← hW6]; exact fill_end HL.out.2 HF.out q
      have HE1 : Hid (Row W6 (some ⟨w2.heap.size, 0, none⟩) (ss ++ [p])) := HE.out.below HB6.out
      have HS1 : Hid (Row W6 (some ⟨w.heap.size, 0, none⟩) ss) := HR1.out.below HB6.out
      have HS2 : Hid (Row W6 (some ⟨w1.heap.size, 0, none⟩) ss') := HR2.out.below HB6.out
      have HBx : Hid (Below w.heap.size w W6) := HBw.out.trans (HB6.out.mono HBw.out.size)
      clear hc2 HF HW HB6 HR1 HR2 HBw HE
      go_wp2_with fail
      clear hW6 hold hf2
      refine (new_any _ _ _ _ _ _ _ _ ss ss' _ HL.out.1 (by omega) HS1.out HZ.out (by unfold maxLen; omega) HL.out.2 (by omega) HS2.out).mono ?_
      rintro e w3 ⟨rfl, m3, b3⟩
      go_wp2_with fail
      refine (grants_any _ _ _ _ (by omega) (by omega) m3).mono ?_
      rintro e w4 ⟨rfl, q4, hw4⟩
      have HU1 : Hid (Row w4 (some ⟨w.heap.size, 0, none⟩) ss) := by subst hw4; exact (HS1.out.below b3).drewN _
      have HU2 : Hid (Row w4 (some ⟨w2.heap.size, 0, none⟩) (ss ++ [p])) := by subst hw4; exact (HE1.out.below b3).drewN _
      have HU3 : Hid (Row w4 (some ⟨W5.heap.size, 0, none⟩) (ss' ++ [q])) := by subst hw4; exact (HE2.out.below b3).drewN _
      have HB4 : Hid (Below w.heap.size w w4) := by subst hw4; exact below_drewN (HBx.out.trans (b3.mono HBx.out.size)) _
      clear m3 b3 hw4 HS1 HS2 HE1 HE2 HBx
      go_wp2_with fail
      refine (new_any _ _ _ _ _ _ _ _ (ss ++ [p]) (ss' ++ [q]) _ HL2.out.1 (by omega) HU2.out HZ2.out (by unfold maxLen; omega) HL2.out.2 (by omega) HU3.out).mono ?_
      rintro e w5 ⟨rfl, m5, b5⟩
      go_wp2_with fail
      refine (grants_any _ _ _ _ (by omega) (by omega) m5).mono ?_
      rintro e w6 ⟨rfl, q6, hw6⟩
      have HV1 : Hid (Row w6 (some ⟨w.heap.size, 0, none⟩) ss) := by subst hw6; exact (HU1.out.below b5).drewN _
      have HB6 : Hid (Below w.heap.size w w6) := by subst hw6; exact below_drewN (HB4.out.trans (b5.mono HB4.out.size)) _
      clear m5 b5 hw6 HU1 HU2 HU3 HB4
      go_wp2_with fail
      obtain ⟨mb, hmb⟩ : ∃ mb : Bool, mem ss p = mb := ⟨_, rfl⟩
      have HM : Hid (mem ss p = mb) := hmb
      clear hmb
      refine (contains_is _ _ _ ss _ mb _ HL.out.1 (by omega) HV1.out HM.out).mono ?_
      rintro e w7 ⟨rfl, hw7⟩
      subst hw7
      cases mb
      all_goals
        go_wp2_with fail
        refine (distinct_any _ _ _ ss _ HL.out.1 (by omega) (by omega) HV1.out).mono ?_
        rintro e w9 ⟨rfl, q9, hw9⟩
        have HB9 : Hid (Below w.heap.size w w9) := by subst hw9; exact below_drewN HB6.out _
        clear hw9
        go_wp2
        go_ret
        refine ⟨ret_bool ?_, HB9.out⟩
        have hd := HD.out
        rw [HM.out] at hd
        simp only [Bool.false_eq_true, if_false, if_true, Nat.add_zero] at hd
        rw [beq_iff_eq]
        omega

end Go.Proofs.Qxb6614915aMods
