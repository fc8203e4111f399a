import Derived.Test.Qxb6614659aModsProg
import Derived.WalkKit
namespace Go.Proofs.Qxb6614659aMods
open Go.RowKit

/-- The step of a redactor: how many bytes of the text it takes for each byte that it gives. -/
def perByte (L : Int) : Int := if 1 < (L + 10 - 1) / 10 then (L + 10 - 1) / 10 else 1
/-- What Needs(n) is, as int wraps. -/
def needs (L n : Int) : Int := wrap64 (wrap64 (n * perByte L) + L)

theorem perByte_big {L : Int} (h : 1 < (L + 10 - 1) / 10) : perByte L = (L + 10 - 1) / 10 := if_pos h
theorem perByte_one {L : Int} (h : (L + 10 - 1) / 10 ≤ 1) : perByte L = 1 := if_neg (by omega)

theorem ret_int {k : IntKind} {a b : Int} (h : a = b) : Ending.returned (.int k a) = .returned (.int k b) := by rw [h]

theorem needs_any (k : Value) (L n : Int) (w : World) (h0 : 0 ≤ L) (h1 : L ≤ 9223372036854775791) :
    Calls Trym.prog 10 #[.agg #[k, .int .i64 L], .int .i64 n] w fun e w' => e = .returned (.int .i64 (needs L n)) ∧ w.alloc (.cells #[k, .int .i64 L] 28) = w' := by
  go_enter Trym.func10, Trym.ntmps10
  go_wp2
  · go_ret
    have h : 1 < (L + 10 - 1) / 10 := by assumption
    exact ⟨ret_int (by rw [needs, perByte_big h]), rfl⟩
  · go_ret
    have h : (L + 10 - 1) / 10 ≤ 1 := by assumption
    exact ⟨ret_int (by rw [needs, perByte_one h, Int.mul_one]), rfl⟩

theorem new_any (L : Int) (w : World) :
    Calls Trym.prog 9 #[.int .i64 L] w fun e w' => e = .returned (.agg #[.pointer none, .int .i64 L]) ∧ w.alloc (.cells #[.pointer none, .int .i64 L] 28) = w' := by
  go_enter Trym.func9, Trym.ntmps9
  go_wp2
  exact bodyPost_ret (v := .agg #[.pointer none, .int .i64 L]) (by simp [results, Trym.results9, go_sem]) rfl ⟨rfl, rfl⟩
end Go.Proofs.Qxb6614659aMods
