import Derived.Test.Qxb6614601aModsProg
import Derived.WalkKit
import Derived.WalkLawsBesides
import Derived.WalkSpells
import Derived.Laws.FloatArith
import Derived.KernelRfl
namespace Go.Proofs.Qxb6614601aMods
open Go.RowKit
set_option linter.unusedVariables false

/-! ### The plain law of floats: a float is the same as itself, by sameFloat's own tests -/

theorem order_self (x : Nat) : FloatKind.f64.format.order x x = none ∨ FloatKind.f64.format.order x x = some .eq := by
  unfold Ieee.Format.order
  cases FloatKind.f64.format.read x with
  | nan s f => left; rfl
  | infinity s => right; simp [Ieee.Datum.order]
  | number s m i => right; simp [Ieee.Datum.order]

theorem read_zero : FloatKind.f64.format.read 0 = .number false 0 (-1074) := by kernel_rfl
theorem read_one : FloatKind.f64.format.read 4607182418800017408 = .number false 4503599627370496 (-52) := by kernel_rfl

theorem signed_zero {s : Bool} {m k : Nat} (h : Ieee.signed s m k = 0) : m = 0 := by
  have h2 : m <<< k = 0 := by
    unfold Ieee.signed at h
    cases s <;> simp at h <;> simpa using h
  rw [Nat.shiftLeft_eq] at h2
  rcases Nat.mul_eq_zero.1 h2 with h3 | h3
  · exact h3
  · exact absurd h3 (Nat.ne_of_gt (Nat.two_pow_pos k))

/-- What is equal to 0 is a zero, of either sign. -/
theorem zero_of_eq {x : Nat} (h : FloatKind.f64.format.order x 0 = some .eq) : ∃ s i, FloatKind.f64.format.read x = .number s 0 i := by
  unfold Ieee.Format.order at h
  rw [read_zero] at h
  cases hx : FloatKind.f64.format.read x with
  | nan s f => rw [hx] at h; cases h
  | infinity s => rw [hx] at h; cases s <;> simp [Ieee.Datum.order] at h
  | number s m i =>
    rw [hx] at h
    simp only [Ieee.Datum.order, Option.some.injEq] at h
    have h1 := Int.compare_eq_eq.1 h
    have h2 : Ieee.signed false 0 ((-1074 : Int) - min i (-1074)).toNat = 0 := by simp [Ieee.signed]
    rw [h2] at h1
    exact ⟨s, i, by rw [signed_zero h1]⟩

/-- 1 / a zero: an infinity, which is equal to itself. -/
theorem div_zero {x : Nat} (h : FloatKind.f64.format.order x 0 = some .eq) : ∃ r, floatBits .quo .f64 4607182418800017408 x = some r ∧ FloatKind.f64.format.order r r = some .eq := by
  obtain ⟨s, i, hx⟩ := zero_of_eq h
  refine ⟨FloatKind.f64.format.write (.infinity s), ?_, ?_⟩
  · show FloatKind.f64.format.div _ _ = _
    unfold Ieee.Format.div
    rw [read_one, hx]
    cases s <;> rfl
  · cases s <;> kernel_rfl

theorem ret_bool {a b : Bool} (h : a = b) : Ending.returned (.bool a) = .returned (.bool b) := by rw [h]

/-- sameFloat(x, x) is true, whatever x is. -/
theorem same_self (x : Nat) (w : World) : Calls Trym.prog 17 #[.float .f64 x, .float .f64 x] w fun e w' => e = .returned (.bool true) ∧ w = w' := by
  rcases order_self x with h | h
  · have h1 : (FloatKind.f64.format.order x x != some .eq) = true := by rw [h]; rfl
    clear h
    go_enter Trym.func17, Trym.ntmps17
    go_wp2
    go_ret
    exact ⟨rfl, rfl⟩
  · have h1 : (FloatKind.f64.format.order x x != some .eq) = false := by rw [h]; rfl
    clear h
    by_cases hz : FloatKind.f64.format.order x 0 = some .eq
    · obtain ⟨r, hr, hrr⟩ := div_zero hz
      have h2 : (FloatKind.f64.format.order x 0 == some .eq) = true := by rw [hz]; rfl
      have h3 : (FloatKind.f64.format.order r r == some .eq) = true := by rw [hrr]; rfl
      have hq := fun w : World => run_float_arith (P := Trym.prog) w .quo 44 .f64 4607182418800017408 x r hr
      clear hz hr hrr
      go_enter Trym.func17, Trym.ntmps17
      go_wp2
      go_ret
      exact ⟨rfl, rfl⟩
    · have h2 : (FloatKind.f64.format.order x 0 == some .eq) = false := by simpa using hz
      clear hz
      go_enter Trym.func17, Trym.ntmps17
      go_wp2
      go_ret
      exact ⟨rfl, rfl⟩
end Go.Proofs.Qxb6614601aMods
