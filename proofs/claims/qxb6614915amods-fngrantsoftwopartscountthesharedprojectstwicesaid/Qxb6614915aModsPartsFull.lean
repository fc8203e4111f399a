import Derived.Test.Qxb6614915aModsSlices
namespace Go.Proofs.Qxb6614915aMods
open Go.RowKit Go.Maps Go.WideMaps
set_option linter.unusedVariables false

set_option maxHeartbeats 2000000 in
theorem parts_full_nil (r pr : ByteArray) (x : Addr) (n c : Nat) (ss : List ByteArray)  (w : World) (hr0 : r.size ≤ 65536) (hpr : pr.size ≤ 65536) (hl : ss.length = n) (hn : n ≤ 65536) (hr : Row w (some x) ss) (hz : ∀ s ∈ ss, s.size ≤ maxLen)  :
    Calls Trym.prog 6 #[.string r, .slice (some x) n c, .string pr, .slice none 0 0, .int .i64 n, .int .i64 0] w fun e w' => e = .returned (.bool true) ∧ Below w.heap.size w w' := by
  have hne := fun (w : World) (a : Option Addr) (n c : Nat) => run_neq_slice_nil_any (P := Trym.prog) w 34 9 a n c 0 0 Trym.underlying34
  have hmk := run_make_row' (P := Trym.prog) 34 9 (.string ByteArray.empty) 16 Trym.underlying34 Trym.info9 rfl .i64 .i64 n (by omega) (by omega)
  obtain ⟨w1, hcp, q1, s1, b1⟩ := copied x n c ss w hl hr
  have b2 : Below w1.heap.size w1 w1 := Below.refl _ _
  have HQ1 : Hid (Row w1 (some ⟨w.heap.size, 0, none⟩) ss) := q1.below b2
  have HQ2 : Hid (Row w1 none ([] : List ByteArray)) := row_nil _ _
  have HB : Hid (Below w.heap.size w w1) := b1.trans (b2.mono b1.size)
  have HL : Hid (ss.length = n ∧ ([] : List ByteArray).length = 0) := ⟨hl, rfl⟩
  have HZ : Hid (∀ s ∈ ss, s.size ≤ maxLen) := hz
  have Hzz : Hid (Row w (some x) ss ∧ Row w none ([] : List ByteArray)) := ⟨hr, row_nil _ _⟩
  have HLL : Hid (ss.length = n) := show _ = _ from HL.out.1
  have HLR : Hid (([] : List ByteArray).length = 0) := show _ = _ from rfl
  have HTL : Hid (([] : List ByteArray).length = 0) := show _ = _ from rfl
  have HTR : Hid (([] : List ByteArray).length = 0) := show _ = _ from rfl
  have HZL : Hid (∀ s ∈ ss, s.size ≤ maxLen) := HZ.out
  have HZR : Hid (∀ s ∈ ([] : List ByteArray), s.size ≤ maxLen) := fun s hs => by cases hs
  have HP : Hid (dc ss + dc ([] : List ByteArray) = dc ss + sh ss ([] : List ByteArray)) := show _ = _ from by
    have e : ss ++ ([] : List ByteArray) = ss := by rw [List.append_nil]
    have := parts ss ([] : List ByteArray); rwa [e] at this
  have dL : dc ss ≤ 65536 := Nat.le_trans (dc_le _) (by rw [HLL.out]; omega)
  have dR : dc ([] : List ByteArray) ≤ 65536 := Nat.le_trans (dc_le _) (by rw [HLR.out]; omega)
  have dW : dc ss ≤ 65536 := Nat.le_trans (dc_le _) (by rw [HL.out.1]; omega)
  have dS : sh ss ([] : List ByteArray) ≤ 65536 := Nat.le_trans (sh_le _ _) (by rw [HLL.out]; omega)
  clear b1 b2 q1 s1 hl hz hr
  go_enter Trym.func6, Trym.ntmps6
  go_wp2_with (go_at_call 21; refine (zz2_any _ _ _ _ _ _ _ _ ss ([] : List ByteArray) _ _ _ HL.out.1 (by unfold maxLen; omega) Hzz.out.1 HL.out.2 (by unfold maxLen; omega) Hzz.out.2).mono ?_; rintro e w' ⟨⟨zb, rfl⟩, rfl⟩)
  · go_ret
    exact ⟨rfl, Below.refl _ _⟩
  refine (bytesOf_any _ _ _ ss _ _ HL.out.1 (by omega) HQ1.out).mono ?_
  rintro e w' ⟨⟨T1, rfl⟩, rfl⟩
  go_wp2_with fail
  · go_ret
    exact ⟨rfl, HB.out⟩
  refine (bytesOf_any _ _ _ ([] : List ByteArray) _ _ HL.out.2 (by omega) HQ2.out).mono ?_
  rintro e w' ⟨⟨T2, rfl⟩, rfl⟩
  go_wp2_with fail
  · go_ret
    exact ⟨rfl, HB.out⟩
  refine (new_any _ _ _ _ _ _ _ _ ss ([] : List ByteArray) _ HLL.out (by omega) HQ1.out HZL.out (by unfold maxLen; omega) HTL.out (by omega) HQ2.out).mono ?_
  rintro e w3 ⟨rfl, m3, b3⟩
  go_wp2_with fail
  refine (grants_any _ _ _ _ (by omega) (by omega) m3).mono ?_
  rintro e w4 ⟨rfl, q4, hw4⟩
  have HR1 : Hid (Row w4 (some ⟨w.heap.size, 0, none⟩) ss) := by subst hw4; exact (HQ1.out.below b3).drewN _
  have HR2 : Hid (Row w4 none ([] : List ByteArray)) := by subst hw4; exact (HQ2.out.below b3).drewN _
  have HB4 : Hid (Below w.heap.size w w4) := by subst hw4; exact below_drewN (HB.out.trans (b3.mono HB.out.size)) _
  clear m3 b3 hw4 HQ1 HQ2 HB
  go_wp2_with fail
  refine (new_any _ _ _ _ _ _ _ _ ([] : List ByteArray) ([] : List ByteArray) _ HLR.out (by omega) (row_nil _ _) HZR.out (by unfold maxLen; omega) HTR.out (by omega) (row_nil _ _)).mono ?_
  rintro e w5 ⟨rfl, m5, b5⟩
  go_wp2_with fail
  refine (grants_any _ _ _ _ (by omega) (by omega) m5).mono ?_
  rintro e w6 ⟨rfl, q6, hw6⟩
  have HS1 : Hid (Row w6 (some ⟨w.heap.size, 0, none⟩) ss) := by subst hw6; exact (HR1.out.below b5).drewN _
  have HS2 : Hid (Row w6 none ([] : List ByteArray)) := by subst hw6; exact (HR2.out.below b5).drewN _
  have HB6 : Hid (Below w.heap.size w w6) := by subst hw6; exact below_drewN (HB4.out.trans (b5.mono HB4.out.size)) _
  clear m5 b5 hw6 HR1 HR2 HB4
  go_wp2_with fail
  refine (new_any _ _ _ _ _ _ _ _ ss ([] : List ByteArray) _ HL.out.1 (by omega) HS1.out HZ.out (by unfold maxLen; omega) HL.out.2 (by omega) HS2.out).mono ?_
  rintro e w7 ⟨rfl, m7, b7⟩
  go_wp2_with fail
  refine (grants_any _ _ _ _ (by omega) (by omega) m7).mono ?_
  rintro e w8 ⟨rfl, q8, hw8⟩
  have HT1 : Hid (Row w8 (some ⟨w.heap.size, 0, none⟩) ss) := by subst hw8; exact (HS1.out.below b7).drewN _
  have HB8 : Hid (Below w.heap.size w w8) := by subst hw8; exact below_drewN (HB6.out.trans (b7.mono HB6.out.size)) _
  clear m7 b7 hw8 HS1 HS2 HB6
  go_wp2_with fail
  refine (distinct_any _ _ _ ss _ HLL.out (by omega) (by omega) HT1.out).mono ?_
  rintro e w9 ⟨rfl, q9, hw9⟩
  have HU1 : Hid (Row w9 (some ⟨w.heap.size, 0, none⟩) ss) := by subst hw9; exact HT1.out.drewN _
  have HB9 : Hid (Below w.heap.size w w9) := by subst hw9; exact below_drewN HB8.out _
  clear hw9 HT1 HB8
  go_wp2_with fail
  refine (shared_any _ _ _ _ _ _ ss ([] : List ByteArray) _ HLL.out (by omega) (by omega) HU1.out HLR.out (by omega) (row_nil _ _)).mono ?_
  rintro e w10 ⟨rfl, q10, hw10⟩
  have HB10 : Hid (Below w.heap.size w w10) := by subst hw10; exact below_drewN HB9.out _
  clear hw10 HU1 HB9
  go_wp2
  go_ret
  refine ⟨ret_bool ?_, HB10.out⟩
  have hp := HP.out
  rw [beq_iff_eq]
  omega

set_option maxHeartbeats 2000000 in
theorem parts_full_full (r pr : ByteArray) (x : Addr) (n c : Nat) (ss : List ByteArray) (x' : Addr) (n' c' : Nat) (ss' : List ByteArray) (w : World) (hr0 : r.size ≤ 65536) (hpr : pr.size ≤ 65536) (hl : ss.length = n) (hn : n ≤ 65536) (hr : Row w (some x) ss) (hz : ∀ s ∈ ss, s.size ≤ maxLen) (hl' : ss'.length = n') (hn' : n' ≤ 65536) (hr' : Row w (some x') ss') :
    Calls Trym.prog 6 #[.string r, .slice (some x) n c, .string pr, .slice (some x') n' c', .int .i64 n, .int .i64 n'] w fun e w' => e = .returned (.bool true) ∧ Below w.heap.size w w' := by
  have hne := fun (w : World) (a : Option Addr) (n c : Nat) => run_neq_slice_nil_any (P := Trym.prog) w 34 9 a n c 0 0 Trym.underlying34
  have hmk := run_make_row' (P := Trym.prog) 34 9 (.string ByteArray.empty) 16 Trym.underlying34 Trym.info9 rfl .i64 .i64 n (by omega) (by omega)
  obtain ⟨w1, hcp, q1, s1, b1⟩ := copied x n c ss w hl hr
  have hmk' := run_make_row' (P := Trym.prog) 34 9 (.string ByteArray.empty) 16 Trym.underlying34 Trym.info9 rfl .i64 .i64 n' (by omega) (by omega)
  obtain ⟨w2, hcp', q2, s2, b2⟩ := copied x' n' c' ss' w1 hl' (hr'.below b1)
  have HQ1 : Hid (Row w2 (some ⟨w.heap.size, 0, none⟩) ss) := q1.below b2
  have HQ2 : Hid (Row w2 (some ⟨w1.heap.size, 0, none⟩) ss') := q2
  have HB : Hid (Below w.heap.size w w2) := b1.trans (b2.mono b1.size)
  have HL : Hid (ss.length = n ∧ ss'.length = n') := ⟨hl, hl'⟩
  have HZ : Hid (∀ s ∈ ss, s.size ≤ maxLen) := hz
  have Hzz : Hid (Row w (some x) ss ∧ Row w (some x') ss') := ⟨hr, hr'⟩
  have HLL : Hid (ss.length = n) := show _ = _ from HL.out.1
  have HLR : Hid (([] : List ByteArray).length = 0) := show _ = _ from rfl
  have HTL : Hid (ss'.length = n') := show _ = _ from HL.out.2
  have HTR : Hid (([] : List ByteArray).length = 0) := show _ = _ from rfl
  have HZL : Hid (∀ s ∈ ss, s.size ≤ maxLen) := HZ.out
  have HZR : Hid (∀ s ∈ ([] : List ByteArray), s.size ≤ maxLen) := fun s hs => by cases hs
  have HP : Hid (dc ss + dc ([] : List ByteArray) = dc ss + sh ss ([] : List ByteArray)) := show _ = _ from by
    have e : ss ++ ([] : List ByteArray) = ss := by rw [List.append_nil]
    have := parts ss ([] : List ByteArray); rwa [e] at this
  have dL : dc ss ≤ 65536 := Nat.le_trans (dc_le _) (by rw [HLL.out]; omega)
  have dR : dc ([] : List ByteArray) ≤ 65536 := Nat.le_trans (dc_le _) (by rw [HLR.out]; omega)
  have dW : dc ss ≤ 65536 := Nat.le_trans (dc_le _) (by rw [HL.out.1]; omega)
  have dS : sh ss ([] : List ByteArray) ≤ 65536 := Nat.le_trans (sh_le _ _) (by rw [HLL.out]; omega)
  clear b1 b2 q1 s1 hl hz hr q2 s2 hl' hr'
  go_enter Trym.func6, Trym.ntmps6
  go_wp2_with (go_at_call 21; refine (zz2_any _ _ _ _ _ _ _ _ ss ss' _ _ _ HL.out.1 (by unfold maxLen; omega) Hzz.out.1 HL.out.2 (by unfold maxLen; omega) Hzz.out.2).mono ?_; rintro e w' ⟨⟨zb, rfl⟩, rfl⟩)
  · go_ret
    exact ⟨rfl, Below.refl _ _⟩
  refine (bytesOf_any _ _ _ ss _ _ HL.out.1 (by omega) HQ1.out).mono ?_
  rintro e w' ⟨⟨T1, rfl⟩, rfl⟩
  go_wp2_with fail
  · go_ret
    exact ⟨rfl, HB.out⟩
  refine (bytesOf_any _ _ _ ss' _ _ HL.out.2 (by omega) HQ2.out).mono ?_
  rintro e w' ⟨⟨T2, rfl⟩, rfl⟩
  go_wp2_with fail
  · go_ret
    exact ⟨rfl, HB.out⟩
  refine (new_any _ _ _ _ _ _ _ _ ss ss' _ HLL.out (by omega) HQ1.out HZL.out (by unfold maxLen; omega) HTL.out (by omega) HQ2.out).mono ?_
  rintro e w3 ⟨rfl, m3, b3⟩
  go_wp2_with fail
  refine (grants_any _ _ _ _ (by omega) (by omega) m3).mono ?_
  rintro e w4 ⟨rfl, q4, hw4⟩
  have HR1 : Hid (Row w4 (some ⟨w.heap.size, 0, none⟩) ss) := by subst hw4; exact (HQ1.out.below b3).drewN _
  have HR2 : Hid (Row w4 (some ⟨w1.heap.size, 0, none⟩) ss') := by subst hw4; exact (HQ2.out.below b3).drewN _
  have HB4 : Hid (Below w.heap.size w w4) := by subst hw4; exact below_drewN (HB.out.trans (b3.mono HB.out.size)) _
  clear m3 b3 hw4 HQ1 HQ2 HB
  go_wp2_with fail
  refine (new_any _ _ _ _ _ _ _ _ ([] : List ByteArray) ([] : List ByteArray) _ HLR.out (by omega) (row_nil _ _) HZR.out (by unfold maxLen; omega) HTR.out (by omega) (row_nil _ _)).mono ?_
  rintro e w5 ⟨rfl, m5, b5⟩
  go_wp2_with fail
  refine (grants_any _ _ _ _ (by omega) (by omega) m5).mono ?_
  rintro e w6 ⟨rfl, q6, hw6⟩
  have HS1 : Hid (Row w6 (some ⟨w.heap.size, 0, none⟩) ss) := by subst hw6; exact (HR1.out.below b5).drewN _
  have HS2 : Hid (Row w6 (some ⟨w1.heap.size, 0, none⟩) ss') := by subst hw6; exact (HR2.out.below b5).drewN _
  have HB6 : Hid (Below w.heap.size w w6) := by subst hw6; exact below_drewN (HB4.out.trans (b5.mono HB4.out.size)) _
  clear m5 b5 hw6 HR1 HR2 HB4
  go_wp2_with fail
  refine (new_any _ _ _ _ _ _ _ _ ss ss' _ HL.out.1 (by omega) HS1.out HZ.out (by unfold maxLen; omega) HL.out.2 (by omega) HS2.out).mono ?_
  rintro e w7 ⟨rfl, m7, b7⟩
  go_wp2_with fail
  refine (grants_any _ _ _ _ (by omega) (by omega) m7).mono ?_
  rintro e w8 ⟨rfl, q8, hw8⟩
  have HT1 : Hid (Row w8 (some ⟨w.heap.size, 0, none⟩) ss) := by subst hw8; exact (HS1.out.below b7).drewN _
  have HB8 : Hid (Below w.heap.size w w8) := by subst hw8; exact below_drewN (HB6.out.trans (b7.mono HB6.out.size)) _
  clear m7 b7 hw8 HS1 HS2 HB6
  go_wp2_with fail
  refine (distinct_any _ _ _ ss _ HLL.out (by omega) (by omega) HT1.out).mono ?_
  rintro e w9 ⟨rfl, q9, hw9⟩
  have HU1 : Hid (Row w9 (some ⟨w.heap.size, 0, none⟩) ss) := by subst hw9; exact HT1.out.drewN _
  have HB9 : Hid (Below w.heap.size w w9) := by subst hw9; exact below_drewN HB8.out _
  clear hw9 HT1 HB8
  go_wp2_with fail
  refine (shared_any _ _ _ _ _ _ ss ([] : List ByteArray) _ HLL.out (by omega) (by omega) HU1.out HLR.out (by omega) (row_nil _ _)).mono ?_
  rintro e w10 ⟨rfl, q10, hw10⟩
  have HB10 : Hid (Below w.heap.size w w10) := by subst hw10; exact below_drewN HB9.out _
  clear hw10 HU1 HB9
  go_wp2
  go_ret
  refine ⟨ret_bool ?_, HB10.out⟩
  have hp := HP.out
  rw [beq_iff_eq]
  omega

set_option maxHeartbeats 2000000 in
theorem parts_full_cut (r pr : ByteArray) (x : Addr) (n c : Nat) (ss : List ByteArray) (x' : Addr) (n' c' K : Nat) (ss' : List ByteArray) (w : World) (hr0 : r.size ≤ 65536) (hpr : pr.size ≤ 65536) (hl : ss.length = n) (hn : n ≤ 65536) (hr : Row w (some x) ss) (hz : ∀ s ∈ ss, s.size ≤ maxLen) (hl' : ss'.length = n') (hn' : n' ≤ 65536) (hr' : Row w (some x') ss') (hK : K < n') :
    Calls Trym.prog 6 #[.string r, .slice (some x) n c, .string pr, .slice (some x') n' c', .int .i64 n, .int .i64 K] w fun e w' => e = .returned (.bool true) ∧ Below w.heap.size w w' := by
  have hne := fun (w : World) (a : Option Addr) (n c : Nat) => run_neq_slice_nil_any (P := Trym.prog) w 34 9 a n c 0 0 Trym.underlying34
  have hmk := run_make_row' (P := Trym.prog) 34 9 (.string ByteArray.empty) 16 Trym.underlying34 Trym.info9 rfl .i64 .i64 n (by omega) (by omega)
  obtain ⟨w1, hcp, q1, s1, b1⟩ := copied x n c ss w hl hr
  have hmk' := run_make_row' (P := Trym.prog) 34 9 (.string ByteArray.empty) 16 Trym.underlying34 Trym.info9 rfl .i64 .i64 n' (by omega) (by omega)
  obtain ⟨w2, hcp', q2, s2, b2⟩ := copied x' n' c' ss' w1 hl' (hr'.below b1)
  have HQ1 : Hid (Row w2 (some ⟨w.heap.size, 0, none⟩) ss) := q1.below b2
  have HQ2 : Hid (Row w2 (some ⟨w1.heap.size, 0, none⟩) ss') := q2
  have HB : Hid (Below w.heap.size w w2) := b1.trans (b2.mono b1.size)
  have HL : Hid (ss.length = n ∧ ss'.length = n') := ⟨hl, hl'⟩
  have HZ : Hid (∀ s ∈ ss, s.size ≤ maxLen) := hz
  have Hzz : Hid (Row w (some x) ss ∧ Row w (some x') ss') := ⟨hr, hr'⟩
  have HLL : Hid (ss.length = n) := show _ = _ from HL.out.1
  have HLR : Hid (([] : List ByteArray).length = 0) := show _ = _ from rfl
  have HTL : Hid ((ss'.take K).length = K) := show _ = _ from by rw [List.length_take, HL.out.2]; omega
  have HTR : Hid ((ss'.drop K).length = n' - K) := show _ = _ from by rw [List.length_drop, HL.out.2]
  have HZL : Hid (∀ s ∈ ss, s.size ≤ maxLen) := HZ.out
  have HZR : Hid (∀ s ∈ ([] : List ByteArray), s.size ≤ maxLen) := fun s hs => by cases hs
  have HP : Hid (dc ss + dc ([] : List ByteArray) = dc ss + sh ss ([] : List ByteArray)) := show _ = _ from by
    have e : ss ++ ([] : List ByteArray) = ss := by rw [List.append_nil]
    have := parts ss ([] : List ByteArray); rwa [e] at this
  have dL : dc ss ≤ 65536 := Nat.le_trans (dc_le _) (by rw [HLL.out]; omega)
  have dR : dc ([] : List ByteArray) ≤ 65536 := Nat.le_trans (dc_le _) (by rw [HLR.out]; omega)
  have dW : dc ss ≤ 65536 := Nat.le_trans (dc_le _) (by rw [HL.out.1]; omega)
  have dS : sh ss ([] : List ByteArray) ≤ 65536 := Nat.le_trans (sh_le _ _) (by rw [HLL.out]; omega)
  clear b1 b2 q1 s1 hl hz hr q2 s2 hl' hr'
  have hKi : (K : Int) ≤ (n' : Int) := by omega
  go_enter Trym.func6, Trym.ntmps6
  go_wp2_with (go_at_call 21; refine (zz2_any _ _ _ _ _ _ _ _ ss ss' _ _ _ HL.out.1 (by unfold maxLen; omega) Hzz.out.1 HL.out.2 (by unfold maxLen; omega) Hzz.out.2).mono ?_; rintro e w' ⟨⟨zb, rfl⟩, rfl⟩)
  · go_ret
    exact ⟨rfl, Below.refl _ _⟩
  refine (bytesOf_any _ _ _ ss _ _ HL.out.1 (by omega) HQ1.out).mono ?_
  rintro e w' ⟨⟨T1, rfl⟩, rfl⟩
  go_wp2_with fail
  · go_ret
    exact ⟨rfl, HB.out⟩
  refine (bytesOf_any _ _ _ ss' _ _ HL.out.2 (by omega) HQ2.out).mono ?_
  rintro e w' ⟨⟨T2, rfl⟩, rfl⟩
  go_wp2_with fail
  · go_ret
    exact ⟨rfl, HB.out⟩
  refine (new_any _ _ _ _ _ _ _ _ ss (ss'.take K) _ HLL.out (by omega) HQ1.out HZL.out (by unfold maxLen; omega) HTL.out (by omega) (HQ2.out.take K)).mono ?_
  rintro e w3 ⟨rfl, m3, b3⟩
  go_wp2_with fail
  refine (grants_any _ _ _ _ (by omega) (by omega) m3).mono ?_
  rintro e w4 ⟨rfl, q4, hw4⟩
  have HR1 : Hid (Row w4 (some ⟨w.heap.size, 0, none⟩) ss) := by subst hw4; exact (HQ1.out.below b3).drewN _
  have HR2 : Hid (Row w4 (some ⟨w1.heap.size, 0, none⟩) ss') := by subst hw4; exact (HQ2.out.below b3).drewN _
  have HB4 : Hid (Below w.heap.size w w4) := by subst hw4; exact below_drewN (HB.out.trans (b3.mono HB.out.size)) _
  clear m3 b3 hw4 HQ1 HQ2 HB
  go_wp2_with fail
  refine (new_any _ _ _ _ _ _ _ _ ([] : List ByteArray) (ss'.drop K) _ HLR.out (by omega) (row_nil _ _) HZR.out (by unfold maxLen; omega) HTR.out (by omega) (HR2.out.drop K)).mono ?_
  rintro e w5 ⟨rfl, m5, b5⟩
  go_wp2_with fail
  refine (grants_any _ _ _ _ (by omega) (by omega) m5).mono ?_
  rintro e w6 ⟨rfl, q6, hw6⟩
  have HS1 : Hid (Row w6 (some ⟨w.heap.size, 0, none⟩) ss) := by subst hw6; exact (HR1.out.below b5).drewN _
  have HS2 : Hid (Row w6 (some ⟨w1.heap.size, 0, none⟩) ss') := by subst hw6; exact (HR2.out.below b5).drewN _
  have HB6 : Hid (Below w.heap.size w w6) := by subst hw6; exact below_drewN (HB4.out.trans (b5.mono HB4.out.size)) _
  clear m5 b5 hw6 HR1 HR2 HB4
  go_wp2_with fail
  refine (new_any _ _ _ _ _ _ _ _ ss ss' _ HL.out.1 (by omega) HS1.out HZ.out (by unfold maxLen; omega) HL.out.2 (by omega) HS2.out).mono ?_
  rintro e w7 ⟨rfl, m7, b7⟩
  go_wp2_with fail
  refine (grants_any _ _ _ _ (by omega) (by omega) m7).mono ?_
  rintro e w8 ⟨rfl, q8, hw8⟩
  have HT1 : Hid (Row w8 (some ⟨w.heap.size, 0, none⟩) ss) := by subst hw8; exact (HS1.out.below b7).drewN _
  have HB8 : Hid (Below w.heap.size w w8) := by subst hw8; exact below_drewN (HB6.out.trans (b7.mono HB6.out.size)) _
  clear m7 b7 hw8 HS1 HS2 HB6
  go_wp2_with fail
  refine (distinct_any _ _ _ ss _ HLL.out (by omega) (by omega) HT1.out).mono ?_
  rintro e w9 ⟨rfl, q9, hw9⟩
  have HU1 : Hid (Row w9 (some ⟨w.heap.size, 0, none⟩) ss) := by subst hw9; exact HT1.out.drewN _
  have HB9 : Hid (Below w.heap.size w w9) := by subst hw9; exact below_drewN HB8.out _
  clear hw9 HT1 HB8
  go_wp2_with fail
  refine (shared_any _ _ _ _ _ _ ss ([] : List ByteArray) _ HLL.out (by omega) (by omega) HU1.out HLR.out (by omega) (row_nil _ _)).mono ?_
  rintro e w10 ⟨rfl, q10, hw10⟩
  have HB10 : Hid (Below w.heap.size w w10) := by subst hw10; exact below_drewN HB9.out _
  clear hw10 HU1 HB9
  go_wp2
  go_ret
  refine ⟨ret_bool ?_, HB10.out⟩
  have hp := HP.out
  rw [beq_iff_eq]
  omega

end Go.Proofs.Qxb6614915aMods
