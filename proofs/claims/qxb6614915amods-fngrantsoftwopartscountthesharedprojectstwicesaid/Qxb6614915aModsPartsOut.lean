import Derived.Test.Qxb6614915aModsSlices
namespace Go.Proofs.Qxb6614915aMods
open Go.RowKit Go.Maps Go.WideMaps
set_option linter.unusedVariables false

set_option maxHeartbeats 2000000 in
theorem out_nil_nil (r pr : ByteArray)   (i k : Int) (w : World) (hr0 : r.size ≤ 65536) (hpr : pr.size ≤ 65536)   (h : ¬ (0 ≤ i ∧ i ≤ 0 ∧ 0 ≤ k ∧ k ≤ 0)) :
    Calls Trym.prog 6 #[.string r, .slice none 0 0, .string pr, .slice none 0 0, .int .i64 i, .int .i64 k] w fun e w' => e = .returned (.bool true) ∧ Below w.heap.size w w' := by
  have hne := fun (w : World) (a : Option Addr) (n c : Nat) => run_neq_slice_nil_any (P := Trym.prog) w 34 9 a n c 0 0 Trym.underlying34
  have b1 : Below w.heap.size w w := Below.refl _ _
  have b2 : Below w.heap.size w w := Below.refl _ _
  have HQ1 : Hid (Row w none ([] : List ByteArray)) := row_nil _ _
  have HQ2 : Hid (Row w none ([] : List ByteArray)) := row_nil _ _
  have HB : Hid (Below w.heap.size w w) := b1.trans (b2.mono b1.size)
  have HL : Hid (([] : List ByteArray).length = 0 ∧ ([] : List ByteArray).length = 0) := ⟨rfl, rfl⟩
  have Hzz : Hid (Row w none ([] : List ByteArray) ∧ Row w none ([] : List ByteArray)) := ⟨row_nil _ _, row_nil _ _⟩
  have HH : Hid (¬ (0 ≤ i ∧ i ≤ 0 ∧ 0 ≤ k ∧ k ≤ 0)) := h
  clear b1 b2 h
  go_enter Trym.func6, Trym.ntmps6
  go_wp2_with (go_at_call 21; refine (zz2_any _ _ _ _ _ _ _ _ ([] : List ByteArray) ([] : List ByteArray) _ _ _ HL.out.1 (by unfold maxLen; omega) Hzz.out.1 HL.out.2 (by unfold maxLen; omega) Hzz.out.2).mono ?_; rintro e w' ⟨⟨zb, rfl⟩, rfl⟩)
  · go_ret
    exact ⟨rfl, Below.refl _ _⟩
  refine (bytesOf_any _ _ _ ([] : List ByteArray) _ _ HL.out.1 (by omega) HQ1.out).mono ?_
  rintro e w' ⟨⟨T1, rfl⟩, rfl⟩
  go_wp2_with fail
  · go_ret
    exact ⟨rfl, HB.out⟩
  refine (bytesOf_any _ _ _ ([] : List ByteArray) _ _ HL.out.2 (by omega) HQ2.out).mono ?_
  rintro e w' ⟨⟨T2, rfl⟩, rfl⟩
  by_cases i0 : 0 ≤ i
  · by_cases i1 : i ≤ 0
    · by_cases k0 : 0 ≤ k
      · have k1 : (0 : Int) < k := by have := HH.out; omega
        go_wp2
        all_goals
          go_ret
          exact ⟨rfl, HB.out⟩
      · go_wp2
        all_goals
          go_ret
          exact ⟨rfl, HB.out⟩
    · go_wp2
      all_goals
        go_ret
        exact ⟨rfl, HB.out⟩
  · go_wp2
    all_goals
      go_ret
      exact ⟨rfl, HB.out⟩

set_option maxHeartbeats 2000000 in
theorem out_nil_some (r pr : ByteArray)  (x' : Addr) (n' c' : Nat) (ss' : List ByteArray) (i k : Int) (w : World) (hr0 : r.size ≤ 65536) (hpr : pr.size ≤ 65536)  (hl' : ss'.length = n') (hn' : n' ≤ 65536) (hr' : Row w (some x') ss') (h : ¬ (0 ≤ i ∧ i ≤ 0 ∧ 0 ≤ k ∧ k ≤ n')) :
    Calls Trym.prog 6 #[.string r, .slice none 0 0, .string pr, .slice (some x') n' c', .int .i64 i, .int .i64 k] w fun e w' => e = .returned (.bool true) ∧ Below w.heap.size w w' := by
  have hne := fun (w : World) (a : Option Addr) (n c : Nat) => run_neq_slice_nil_any (P := Trym.prog) w 34 9 a n c 0 0 Trym.underlying34
  have b1 : Below w.heap.size w w := Below.refl _ _
  have hmk' := run_make_row' (P := Trym.prog) 34 9 (.string ByteArray.empty) 16 Trym.underlying34 Trym.info9 rfl .i64 .i64 n' (by omega) (by omega)
  obtain ⟨w2, hcp', q2, s2, b2⟩ := copied x' n' c' ss' w hl' (hr'.below b1)
  have HQ1 : Hid (Row w2 none ([] : List ByteArray)) := row_nil _ _
  have HQ2 : Hid (Row w2 (some ⟨w.heap.size, 0, none⟩) ss') := q2
  have HB : Hid (Below w.heap.size w w2) := b1.trans (b2.mono b1.size)
  have HL : Hid (([] : List ByteArray).length = 0 ∧ ss'.length = n') := ⟨rfl, hl'⟩
  have Hzz : Hid (Row w none ([] : List ByteArray) ∧ Row w (some x') ss') := ⟨row_nil _ _, hr'⟩
  have HH : Hid (¬ (0 ≤ i ∧ i ≤ 0 ∧ 0 ≤ k ∧ k ≤ n')) := h
  clear b1 b2 h q2 s2 hl' hr'
  go_enter Trym.func6, Trym.ntmps6
  go_wp2_with (go_at_call 21; refine (zz2_any _ _ _ _ _ _ _ _ ([] : List ByteArray) ss' _ _ _ HL.out.1 (by unfold maxLen; omega) Hzz.out.1 HL.out.2 (by unfold maxLen; omega) Hzz.out.2).mono ?_; rintro e w' ⟨⟨zb, rfl⟩, rfl⟩)
  · go_ret
    exact ⟨rfl, Below.refl _ _⟩
  refine (bytesOf_any _ _ _ ([] : List ByteArray) _ _ HL.out.1 (by omega) HQ1.out).mono ?_
  rintro e w' ⟨⟨T1, rfl⟩, rfl⟩
  go_wp2_with fail
  · go_ret
    exact ⟨rfl, HB.out⟩
  refine (bytesOf_any _ _ _ ss' _ _ HL.out.2 (by omega) HQ2.out).mono ?_
  rintro e w' ⟨⟨T2, rfl⟩, rfl⟩
  by_cases i0 : 0 ≤ i
  · by_cases i1 : i ≤ 0
    · by_cases k0 : 0 ≤ k
      · have k1 : (n' : Int) < k := by have := HH.out; omega
        go_wp2
        all_goals
          go_ret
          exact ⟨rfl, HB.out⟩
      · go_wp2
        all_goals
          go_ret
          exact ⟨rfl, HB.out⟩
    · go_wp2
      all_goals
        go_ret
        exact ⟨rfl, HB.out⟩
  · go_wp2
    all_goals
      go_ret
      exact ⟨rfl, HB.out⟩

set_option maxHeartbeats 2000000 in
theorem out_some_nil (r pr : ByteArray) (x : Addr) (n c : Nat) (ss : List ByteArray)  (i k : Int) (w : World) (hr0 : r.size ≤ 65536) (hpr : pr.size ≤ 65536) (hl : ss.length = n) (hn : n ≤ 65536) (hr : Row w (some x) ss) (hz : ∀ s ∈ ss, s.size ≤ maxLen)  (h : ¬ (0 ≤ i ∧ i ≤ n ∧ 0 ≤ k ∧ k ≤ 0)) :
    Calls Trym.prog 6 #[.string r, .slice (some x) n c, .string pr, .slice none 0 0, .int .i64 i, .int .i64 k] w fun e w' => e = .returned (.bool true) ∧ Below w.heap.size w w' := by
  have hne := fun (w : World) (a : Option Addr) (n c : Nat) => run_neq_slice_nil_any (P := Trym.prog) w 34 9 a n c 0 0 Trym.underlying34
  have hmk := run_make_row' (P := Trym.prog) 34 9 (.string ByteArray.empty) 16 Trym.underlying34 Trym.info9 rfl .i64 .i64 n (by omega) (by omega)
  obtain ⟨w1, hcp, q1, s1, b1⟩ := copied x n c ss w hl hr
  have b2 : Below w1.heap.size w1 w1 := Below.refl _ _
  have HQ1 : Hid (Row w1 (some ⟨w.heap.size, 0, none⟩) ss) := q1.below b2
  have HQ2 : Hid (Row w1 none ([] : List ByteArray)) := row_nil _ _
  have HB : Hid (Below w.heap.size w w1) := b1.trans (b2.mono b1.size)
  have HL : Hid (ss.length = n ∧ ([] : List ByteArray).length = 0) := ⟨hl, rfl⟩
  have Hzz : Hid (Row w (some x) ss ∧ Row w none ([] : List ByteArray)) := ⟨hr, row_nil _ _⟩
  have HH : Hid (¬ (0 ≤ i ∧ i ≤ n ∧ 0 ≤ k ∧ k ≤ 0)) := h
  clear b1 b2 h q1 s1 hl hz hr
  go_enter Trym.func6, Trym.ntmps6
  go_wp2_with (go_at_call 21; refine (zz2_any _ _ _ _ _ _ _ _ ss ([] : List ByteArray) _ _ _ HL.out.1 (by unfold maxLen; omega) Hzz.out.1 HL.out.2 (by unfold maxLen; omega) Hzz.out.2).mono ?_; rintro e w' ⟨⟨zb, rfl⟩, rfl⟩)
  · go_ret
    exact ⟨rfl, Below.refl _ _⟩
  refine (bytesOf_any _ _ _ ss _ _ HL.out.1 (by omega) HQ1.out).mono ?_
  rintro e w' ⟨⟨T1, rfl⟩, rfl⟩
  go_wp2_with fail
  · go_ret
    exact ⟨rfl, HB.out⟩
  refine (bytesOf_any _ _ _ ([] : List ByteArray) _ _ HL.out.2 (by omega) HQ2.out).mono ?_
  rintro e w' ⟨⟨T2, rfl⟩, rfl⟩
  by_cases i0 : 0 ≤ i
  · by_cases i1 : i ≤ n
    · by_cases k0 : 0 ≤ k
      · have k1 : (0 : Int) < k := by have := HH.out; omega
        go_wp2
        all_goals
          go_ret
          exact ⟨rfl, HB.out⟩
      · go_wp2
        all_goals
          go_ret
          exact ⟨rfl, HB.out⟩
    · go_wp2
      all_goals
        go_ret
        exact ⟨rfl, HB.out⟩
  · go_wp2
    all_goals
      go_ret
      exact ⟨rfl, HB.out⟩

set_option maxHeartbeats 2000000 in
theorem out_some_some (r pr : ByteArray) (x : Addr) (n c : Nat) (ss : List ByteArray) (x' : Addr) (n' c' : Nat) (ss' : List ByteArray) (i k : Int) (w : World) (hr0 : r.size ≤ 65536) (hpr : pr.size ≤ 65536) (hl : ss.length = n) (hn : n ≤ 65536) (hr : Row w (some x) ss) (hz : ∀ s ∈ ss, s.size ≤ maxLen) (hl' : ss'.length = n') (hn' : n' ≤ 65536) (hr' : Row w (some x') ss') (h : ¬ (0 ≤ i ∧ i ≤ n ∧ 0 ≤ k ∧ k ≤ n')) :
    Calls Trym.prog 6 #[.string r, .slice (some x) n c, .string pr, .slice (some x') n' c', .int .i64 i, .int .i64 k] w fun e w' => e = .returned (.bool true) ∧ Below w.heap.size w w' := by
  have hne := fun (w : World) (a : Option Addr) (n c : Nat) => run_neq_slice_nil_any (P := Trym.prog) w 34 9 a n c 0 0 Trym.underlying34
  have hmk := run_make_row' (P := Trym.prog) 34 9 (.string ByteArray.empty) 16 Trym.underlying34 Trym.info9 rfl .i64 .i64 n (by omega) (by omega)
  obtain ⟨w1, hcp, q1, s1, b1⟩ := copied x n c ss w hl hr
  have hmk' := run_make_row' (P := Trym.prog) 34 9 (.string ByteArray.empty) 16 Trym.underlying34 Trym.info9 rfl .i64 .i64 n' (by omega) (by omega)
  obtain ⟨w2, hcp', q2, s2, b2⟩ := copied x' n' c' ss' w1 hl' (hr'.below b1)
  have HQ1 : Hid (Row w2 (some ⟨w.heap.size, 0, none⟩) ss) := q1.below b2
  have HQ2 : Hid (Row w2 (some ⟨w1.heap.size, 0, none⟩) ss') := q2
  have HB : Hid (Below w.heap.size w w2) := b1.trans (b2.mono b1.size)
  have HL : Hid (ss.length = n ∧ ss'.length = n') := ⟨hl, hl'⟩
  have Hzz : Hid (Row w (some x) ss ∧ Row w (some x') ss') := ⟨hr, hr'⟩
  have HH : Hid (¬ (0 ≤ i ∧ i ≤ n ∧ 0 ≤ k ∧ k ≤ n')) := h
  clear b1 b2 h q1 s1 hl hz hr q2 s2 hl' hr'
  go_enter Trym.func6, Trym.ntmps6
  go_wp2_with (go_at_call 21; refine (zz2_any _ _ _ _ _ _ _ _ ss ss' _ _ _ HL.out.1 (by unfold maxLen; omega) Hzz.out.1 HL.out.2 (by unfold maxLen; omega) Hzz.out.2).mono ?_; rintro e w' ⟨⟨zb, rfl⟩, rfl⟩)
  · go_ret
    exact ⟨rfl, Below.refl _ _⟩
  refine (bytesOf_any _ _ _ ss _ _ HL.out.1 (by omega) HQ1.out).mono ?_
  rintro e w' ⟨⟨T1, rfl⟩, rfl⟩
  go_wp2_with fail
  · go_ret
    exact ⟨rfl, HB.out⟩
  refine (bytesOf_any _ _ _ ss' _ _ HL.out.2 (by omega) HQ2.out).mono ?_
  rintro e w' ⟨⟨T2, rfl⟩, rfl⟩
  by_cases i0 : 0 ≤ i
  · by_cases i1 : i ≤ n
    · by_cases k0 : 0 ≤ k
      · have k1 : (n' : Int) < k := by have := HH.out; omega
        go_wp2
        all_goals
          go_ret
          exact ⟨rfl, HB.out⟩
      · go_wp2
        all_goals
          go_ret
          exact ⟨rfl, HB.out⟩
    · go_wp2
      all_goals
        go_ret
        exact ⟨rfl, HB.out⟩
  · go_wp2
    all_goals
      go_ret
      exact ⟨rfl, HB.out⟩


/-- A length beyond 1<<16: true at once. -/
theorem parts_big (r pr : ByteArray) (a a' : Option Addr) (n c n' c' : Nat) (ss ss' : List ByteArray) (i k : Int) (w : World) (hl : ss.length = n) (hn : n ≤ maxLen) (hr : Row w a ss) (hl' : ss'.length = n') (hn' : n' ≤ maxLen) (hr' : Row w a' ss')
    (h : ¬ (n ≤ 65536 ∧ n' ≤ 65536 ∧ r.size ≤ 65536 ∧ pr.size ≤ 65536)) :
    Calls Trym.prog 6 #[.string r, .slice a n c, .string pr, .slice a' n' c', .int .i64 i, .int .i64 k] w fun e w' => e = .returned (.bool true) ∧ Below w.heap.size w w' := by
  have HZ := zz2_any r pr a a' n c n' c' ss ss' (.int .i64 i) (.int .i64 k) w hl hn hr hl' hn' hr'
  have H : Hid (Calls Trym.prog 21 #[.string r, .slice a n c, .string pr, .slice a' n' c', .int .i64 i, .int .i64 k] w fun e w' => SomeBool e ∧ w = w') := HZ
  clear HZ hl hn hr hl' hn' hr'
  by_cases h1 : n ≤ 65536
  · by_cases h2 : n' ≤ 65536
    · by_cases h3 : r.size ≤ 65536
      · have h4 : 65536 < pr.size := by omega
        clear h
        go_enter Trym.func6, Trym.ntmps6
        go_wp2_with (go_at_call 21; refine H.out.mono ?_; rintro e w' ⟨⟨zb, rfl⟩, rfl⟩)
        all_goals
          go_ret
          exact ⟨rfl, Below.refl _ _⟩
      · clear h
        go_enter Trym.func6, Trym.ntmps6
        go_wp2_with (go_at_call 21; refine H.out.mono ?_; rintro e w' ⟨⟨zb, rfl⟩, rfl⟩)
        all_goals
          go_ret
          exact ⟨rfl, Below.refl _ _⟩
    · clear h
      go_enter Trym.func6, Trym.ntmps6
      go_wp2_with (go_at_call 21; refine H.out.mono ?_; rintro e w' ⟨⟨zb, rfl⟩, rfl⟩)
      all_goals
        go_ret
        exact ⟨rfl, Below.refl _ _⟩
  · clear h
    go_enter Trym.func6, Trym.ntmps6
    go_wp2_with (go_at_call 21; refine H.out.mono ?_; rintro e w' ⟨⟨zb, rfl⟩, rfl⟩)
    all_goals
      go_ret
      exact ⟨rfl, Below.refl _ _⟩
end Go.Proofs.Qxb6614915aMods
