import Derived.Test.Qxb6614659aModsNeeds
namespace Go.Proofs.Qxb6614659aMods
open Go.RowKit

theorem perByte_ge (L : Int) : 1 ≤ perByte L := by
  by_cases h : 1 < (L + 10 - 1) / 10
  · rw [perByte_big h]; omega
  · rw [perByte_one (by omega)]; omega
theorem perByte_cov (L : Int) : L ≤ 10 * perByte L := by
  by_cases h : 1 < (L + 10 - 1) / 10
  · rw [perByte_big h]; omega
  · rw [perByte_one (by omega)]; omega
theorem perByte_up (L : Int) (h0 : 0 ≤ L) : 10 * perByte L ≤ L + 10 := by
  by_cases h : 1 < (L + 10 - 1) / 10
  · rw [perByte_big h]; omega
  · rw [perByte_one (by omega)]; omega
theorem perByte_le (L : Int) (h0 : 0 ≤ L) : perByte L ≤ L + 1 := by have := perByte_up L h0; omega
/-- Where the step is more than 1, one less would not do. -/
theorem perByte_least (L : Int) (h : perByte L ≠ 1) : (perByte L - 1) * 10 < L := by
  by_cases h1 : 1 < (L + 10 - 1) / 10
  · rw [perByte_big h1]; omega
  · exact absurd (perByte_one (by omega)) h

theorem wrap_in (n : Int) (h0 : -9223372036854775808 ≤ n) (h1 : n ≤ 9223372036854775807) : wrap64 n = n := IntWalk.wrap64_in n ⟨h0, h1⟩

/-- Where nothing wraps. -/
theorem needs_plain (L n : Int) (h0 : 0 ≤ L) (hn : 0 ≤ n) (hb : n * (L + 1) + L ≤ 9223372036854775807) : needs L n = n * perByte L + L ∧ n ≤ n * perByte L ∧ n * perByte L ≤ n * (L + 1) := by
  have a := Int.mul_le_mul_of_nonneg_left (perByte_le L h0) hn
  have b := Int.mul_le_mul_of_nonneg_left (perByte_ge L) hn
  rw [Int.mul_one] at b
  refine ⟨?_, b, a⟩
  rw [needs, wrap_in (n * perByte L) (by omega) (by omega), wrap_in _ (by omega) (by omega)]

/-- THE ROOM: n times (L + 1), and L, is within int. -/
theorem room_le (L n : Int) (h0 : 0 ≤ L) (hn : n ≤ (9223372036854775807 - L) / (L + 1)) : n * (L + 1) + L ≤ 9223372036854775807 := by
  have a := Int.mul_le_mul_of_nonneg_right hn (show (0 : Int) ≤ L + 1 by omega)
  have b := Int.ediv_mul_le (9223372036854775807 - L) (show (L + 1 : Int) ≠ 0 by omega)
  omega

/-- (a) of the law, and n + L within int. -/
theorem plain_a (L n : Int) (h0 : 0 ≤ L) (hn0 : 0 ≤ n) (hn : n ≤ (9223372036854775807 - L) / (L + 1)) : n + L ≤ needs L n ∧ n + L ≤ 9223372036854775807 ∧ n ≤ 9223372036854775807 := by
  have r := room_le L n h0 hn
  obtain ⟨e, u, v⟩ := needs_plain L n h0 hn0 r
  rw [e]; omega

/-- (b) of the law. -/
theorem plain_b (L k c : Int) (h0 : 0 ≤ L) (hc0 : 0 ≤ c) (hc : c ≤ (9223372036854775807 - L) / (L + 1) / 64) (hk : 1 ≤ k) (hkL : k ≤ L) :
    c * k + L ≤ needs L (c * 10) ∧ 0 ≤ c * k ∧ c * k + L ≤ 9223372036854775807 ∧ c * 10 ≤ 9223372036854775807 := by
  have hc' : 64 * c ≤ (9223372036854775807 - L) / (L + 1) := by omega
  have r := room_le L (64 * c) h0 hc'
  have s : c * 10 * (L + 1) ≤ 64 * c * (L + 1) := Int.mul_le_mul_of_nonneg_right (by omega) (by omega)
  obtain ⟨e, u, v⟩ := needs_plain L (c * 10) h0 (by omega) (by omega)
  have t : c * k ≤ c * (10 * perByte L) := Int.mul_le_mul_of_nonneg_left (by have := perByte_cov L; omega) hc0
  rw [← Int.mul_assoc] at t
  have z : 0 ≤ c * k := Int.mul_nonneg hc0 (by omega)
  rw [e]; omega

/-- (c) of the law. -/
theorem plain_c (n : Int) (h0 : 0 ≤ n) (h1 : n ≤ 9223372036854775807) : needs 0 n = n := by
  rw [needs, perByte_one (by decide), Int.mul_one, wrap_in n (by omega) h1, Int.add_zero, wrap_in n (by omega) h1]
end Go.Proofs.Qxb6614659aMods
