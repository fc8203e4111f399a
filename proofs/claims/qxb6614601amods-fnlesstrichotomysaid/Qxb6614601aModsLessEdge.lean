import Derived.Test.Qxb6614601aModsLessIn
namespace Go.Proofs.Qxb6614601aMods
open Go.RowKit
set_option linter.unusedVariables false

theorem less_nil (i j k : Int) (w : World) :
    Calls Trym.prog 5 #[.slice none 0 0, .int .i64 i, .int .i64 j, .int .i64 k] w fun e w' => e = .returned (.bool true) ∧ Below w.heap.size w w' := by
  have hne := fun (w : World) (a : Option Addr) (n c : Nat) => run_neq_slice_nil_any (P := Trym.prog) w 29 22 a n c 0 0 Trym.underlying29
  by_cases i0 : 0 ≤ i
  · go_enter Trym.func5, Trym.ntmps5
    go_wp2_with (go_at_call 12; refine (bytes_yes _ _ _ _ _ _ _ (by omega)).mono ?_; rintro e w' ⟨rfl, rfl⟩)
    go_ret
    exact ⟨rfl, Below.refl _ _⟩
  · go_enter Trym.func5, Trym.ntmps5
    go_wp2_with (go_at_call 12; refine (bytes_yes _ _ _ _ _ _ _ (by omega)).mono ?_; rintro e w' ⟨rfl, rfl⟩)
    go_ret
    exact ⟨rfl, Below.refl _ _⟩

theorem less_big (a : Option Addr) (len cap : Nat) (i j k : Int) (w : World) (h : ¬ len ≤ 65536) (hm : len ≤ maxLen) :
    Calls Trym.prog 5 #[.slice a len cap, .int .i64 i, .int .i64 j, .int .i64 k] w fun e w' => e = .returned (.bool true) ∧ Below w.heap.size w w' := by
  by_cases hs : len ≤ 1048576
  · clear hm
    go_enter Trym.func5, Trym.ntmps5
    go_wp2_with (go_at_call 12; refine (bytes_yes _ _ _ _ _ _ _ (by omega)).mono ?_; rintro e w' ⟨rfl, rfl⟩)
    go_ret
    exact ⟨rfl, Below.refl _ _⟩
  · have HM : Hid (len ≤ maxLen) := hm
    clear hm
    go_enter Trym.func5, Trym.ntmps5
    go_wp2_with (go_at_call 12; refine (bytes_no _ _ _ _ _ _ _ (by omega) HM.out).mono ?_; rintro e w' ⟨rfl, rfl⟩)
    go_ret
    exact ⟨rfl, Below.refl _ _⟩
end Go.Proofs.Qxb6614601aMods
