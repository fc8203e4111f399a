import Derived.Test.Qxb6614659aModsPlain
namespace Go.Proofs.Qxb6614659aMods
open Go.RowKit

theorem gostring_any (s : ByteArray) (w : World) : Calls Trym.prog 7 #[.string s] w fun e w' => e = .returned (.string { data := #[91, 114, 101, 100, 97, 99, 116, 101, 100, 93] }) ∧ w = w' := by
  go_enter Trym.func7, Trym.ntmps7
  go_wp2
  go_ret
  exact ⟨rfl, rfl⟩

theorem ret_bool {a b : Bool} (h : a = b) : Ending.returned (.bool a) = .returned (.bool b) := by rw [h]

set_option maxHeartbeats 800000 in
theorem covers_in (L k c n : Int) (w : World) (h0 : 0 ≤ L) (h1 : L ≤ 1073741824) (hn0 : 0 ≤ n) (hn : n ≤ (9223372036854775807 - L) / (L + 1)) (hc0 : 0 ≤ c) (hc : c ≤ (9223372036854775807 - L) / (L + 1) / 64) :
    Calls Trym.prog 5 #[.int .i64 L, .int .i64 k, .int .i64 c, .int .i64 n] w fun e w' => e = .returned (.bool true) ∧ Grown w w' := by
  have hr0 : 0 ≤ (9223372036854775807 - L) / (L + 1) := by omega
  have hr1 : (9223372036854775807 - L) / (L + 1) ≤ 9223372036854775807 := by
    refine Int.le_trans (Int.ediv_le_self _ (by omega)) (by omega)
  obtain ⟨a1, a2, a3⟩ := plain_a L n h0 hn0 hn
  have c10 : c * 10 ≤ 9223372036854775807 := by omega
  have hz := plain_c n hn0 a3
  have Hz : Hid (needs 0 n = n) := hz
  clear hz
  by_cases hk : 1 ≤ k
  · by_cases hkL : k ≤ L
    · obtain ⟨b1, b2, b3, b4⟩ := plain_b L k c h0 hc0 hc hk hkL
      go_enter Trym.func5, Trym.ntmps5
      go_wp2_with (first
        | (go_at_call 7; refine (gostring_any _ _).mono ?_; rintro e w' ⟨rfl, rfl⟩)
        | (go_at_call 9; refine (new_any _ _).mono ?_; rintro e w' ⟨rfl, rfl⟩)
        | (go_at_call 10; refine (needs_any _ _ _ _ (by omega) (by omega)).mono ?_; rintro e w' ⟨rfl, rfl⟩))
      go_ret
      exact ⟨ret_bool (by simp [Hz.out]), by repeat (first | exact Grown.refl _ | apply Grown.drew | apply Grown.alloc)⟩
    · go_enter Trym.func5, Trym.ntmps5
      go_wp2_with (first
        | (go_at_call 7; refine (gostring_any _ _).mono ?_; rintro e w' ⟨rfl, rfl⟩)
        | (go_at_call 9; refine (new_any _ _).mono ?_; rintro e w' ⟨rfl, rfl⟩)
        | (go_at_call 10; refine (needs_any _ _ _ _ (by omega) (by omega)).mono ?_; rintro e w' ⟨rfl, rfl⟩))
      go_ret
      exact ⟨ret_bool (by simp [Hz.out]), by repeat (first | exact Grown.refl _ | apply Grown.drew | apply Grown.alloc)⟩
  · go_enter Trym.func5, Trym.ntmps5
    go_wp2_with (first
      | (go_at_call 7; refine (gostring_any _ _).mono ?_; rintro e w' ⟨rfl, rfl⟩)
      | (go_at_call 9; refine (new_any _ _).mono ?_; rintro e w' ⟨rfl, rfl⟩)
      | (go_at_call 10; refine (needs_any _ _ _ _ (by omega) (by omega)).mono ?_; rintro e w' ⟨rfl, rfl⟩))
    go_ret
    exact ⟨ret_bool (by simp [Hz.out]), by repeat (first | exact Grown.refl _ | apply Grown.drew | apply Grown.alloc)⟩

/-- The ways that say true at once: the input is outside what the law speaks of. -/
theorem covers_out (L k c n : Int) (w : World) (h : ¬ (0 ≤ L ∧ L ≤ 1073741824 ∧ 0 ≤ n ∧ n ≤ (9223372036854775807 - L) / (L + 1) ∧ 0 ≤ c ∧ c ≤ (9223372036854775807 - L) / (L + 1) / 64)) :
    Calls Trym.prog 5 #[.int .i64 L, .int .i64 k, .int .i64 c, .int .i64 n] w fun e w' => e = .returned (.bool true) ∧ Grown w w' := by
  by_cases h0 : 0 ≤ L
  · by_cases h1 : L ≤ 1073741824
    · have hr0 : 0 ≤ (9223372036854775807 - L) / (L + 1) := Int.ediv_nonneg (by omega) (by omega)
      have hr1 : (9223372036854775807 - L) / (L + 1) ≤ 9223372036854775807 := by
        refine Int.le_trans (Int.ediv_le_self _ (by omega)) (by omega)
      by_cases h2 : 0 ≤ n
      · by_cases h3 : n ≤ (9223372036854775807 - L) / (L + 1)
        · by_cases h4 : 0 ≤ c
          · have h5 : (9223372036854775807 - L) / (L + 1) / 64 < c := by omega
            clear h
            go_enter Trym.func5, Trym.ntmps5
            go_wp2
            go_ret
            exact ⟨rfl, Grown.refl _⟩
          · clear h
            go_enter Trym.func5, Trym.ntmps5
            go_wp2
            go_ret
            exact ⟨rfl, Grown.refl _⟩
        · clear h
          go_enter Trym.func5, Trym.ntmps5
          go_wp2
          go_ret
          exact ⟨rfl, Grown.refl _⟩
      · clear h
        go_enter Trym.func5, Trym.ntmps5
        go_wp2
        go_ret
        exact ⟨rfl, Grown.refl _⟩
    · clear h
      go_enter Trym.func5, Trym.ntmps5
      go_wp2
      go_ret
      exact ⟨rfl, Grown.refl _⟩
  · clear h
    go_enter Trym.func5, Trym.ntmps5
    go_wp2
    go_ret
    exact ⟨rfl, Grown.refl _⟩
end Go.Proofs.Qxb6614659aMods
