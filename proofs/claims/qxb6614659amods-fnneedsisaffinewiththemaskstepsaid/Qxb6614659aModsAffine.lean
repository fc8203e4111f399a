import Derived.Test.Qxb6614659aModsPlain
namespace Go.Proofs.Qxb6614659aMods
open Go.RowKit

/-- A wrapped number is the number but for a multiple of 2^64. -/
theorem wrap_is (n : Int) : ∃ q : Int, wrap64 n = n - 18446744073709551616 * q := by
  refine ⟨(n + 9223372036854775808) / 18446744073709551616, ?_⟩
  unfold wrap64
  omega

theorem wrap_congr {x y : Int} (k : Int) (h : x = y + 18446744073709551616 * k) : wrap64 x = wrap64 y := by
  subst h
  unfold wrap64
  omega

/-- Needs is affine, as int wraps. -/
theorem affine_plain (L n m : Int) : wrap64 (needs L (wrap64 (n + m)) + needs L 0) = wrap64 (needs L n + needs L m) := by
  unfold needs
  obtain ⟨q, hq⟩ := wrap_is (n + m)
  have e : wrap64 (n + m) * perByte L = n * perByte L + m * perByte L - 18446744073709551616 * (q * perByte L) := by
    rw [hq, Int.sub_mul, Int.add_mul, Int.mul_assoc]
  rw [e, Int.zero_mul]
  generalize n * perByte L = a
  generalize m * perByte L = b
  generalize q * perByte L = c
  obtain ⟨q1, h1⟩ := wrap_is (a + b - 18446744073709551616 * c)
  obtain ⟨q2, h2⟩ := wrap_is (wrap64 (a + b - 18446744073709551616 * c) + L)
  obtain ⟨q3, h3⟩ := wrap_is a
  obtain ⟨q4, h4⟩ := wrap_is b
  obtain ⟨q5, h5⟩ := wrap_is (wrap64 a + L)
  obtain ⟨q6, h6⟩ := wrap_is (wrap64 b + L)
  obtain ⟨q7, h7⟩ := wrap_is 0
  obtain ⟨q8, h8⟩ := wrap_is (wrap64 0 + L)
  refine wrap_congr (q3 + q4 + q5 + q6 - c - q1 - q2 - q7 - q8) ?_
  rw [h2, h1, h8, h7, h5, h6, h3, h4]
  omega

/-- Needs(0) is the longest key's length. -/
theorem needs_zero (L : Int) (h0 : 0 ≤ L) (h1 : L ≤ 9223372036854775791) : needs L 0 = L := by
  rw [needs, Int.zero_mul, wrap_in 0 (by omega) (by omega), Int.zero_add, wrap_in L (by omega) (by omega)]

/-- The step. -/
theorem step_plain (L : Int) (h0 : 0 ≤ L) (h1 : L ≤ 9223372036854775791) : wrap64 (needs L 1 - needs L 0) = perByte L := by
  rw [needs_zero L h0 h1, needs, Int.one_mul]
  have a := perByte_ge L
  have b := perByte_up L h0
  rw [wrap_in (perByte L) (by omega) (by omega)]
  obtain ⟨q, hq⟩ := wrap_is (perByte L + L)
  rw [hq, wrap_congr (y := perByte L) (-q) (by omega), wrap_in (perByte L) (by omega) (by omega)]
end Go.Proofs.Qxb6614659aMods
