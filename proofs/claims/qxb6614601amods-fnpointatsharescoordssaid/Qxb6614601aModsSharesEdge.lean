import Derived.Test.Qxb6614601aModsSharesWalk
namespace Go.Proofs.Qxb6614601aMods
open Go.RowKit
set_option linter.unusedVariables false

theorem shares_out (a : Option Addr) (n c : Nat) (i : Int) (x : Nat) (d1 d2 : Int) (w : World) (hm : n ≤ maxLen) (h : ¬ (n ≤ 65536 ∧ 1 ≤ d1 ∧ d1 ≤ 4 ∧ 1 ≤ d2 ∧ d2 ≤ 4 ∧ 0 ≤ i ∧ i < n)) :
    Calls Trym.prog 7 #[.slice a n c, .int .i64 i, .float .f64 x, .int .i64 d1, .int .i64 d2] w fun e w' => e = .returned (.bool true) ∧ Below w.heap.size w w' := by
  have HM : Hid (n ≤ maxLen) := hm
  clear hm
  by_cases s1 : n ≤ 1048576
  · by_cases s2 : n ≤ 65536
    · by_cases p1 : 1 ≤ d1
      · by_cases p2 : d1 ≤ 4
        · by_cases p3 : 1 ≤ d2
          · by_cases p4 : d2 ≤ 4
            · by_cases i0 : 0 ≤ i
              · have i1 : (n : Int) ≤ i := by omega
                clear h
                go_enter Trym.func7, Trym.ntmps7
                go_wp2_with (go_at_call 18; refine (sbytes_yes _ _ _ _ _ _ _ _ (by omega)).mono ?_; rintro e w' ⟨rfl, rfl⟩)
                go_ret
                exact ⟨rfl, Below.refl _ _⟩
              · clear h
                go_enter Trym.func7, Trym.ntmps7
                go_wp2_with (go_at_call 18; refine (sbytes_yes _ _ _ _ _ _ _ _ (by omega)).mono ?_; rintro e w' ⟨rfl, rfl⟩)
                go_ret
                exact ⟨rfl, Below.refl _ _⟩
            · clear h
              go_enter Trym.func7, Trym.ntmps7
              go_wp2_with (go_at_call 18; refine (sbytes_yes _ _ _ _ _ _ _ _ (by omega)).mono ?_; rintro e w' ⟨rfl, rfl⟩)
              go_ret
              exact ⟨rfl, Below.refl _ _⟩
          · clear h
            go_enter Trym.func7, Trym.ntmps7
            go_wp2_with (go_at_call 18; refine (sbytes_yes _ _ _ _ _ _ _ _ (by omega)).mono ?_; rintro e w' ⟨rfl, rfl⟩)
            go_ret
            exact ⟨rfl, Below.refl _ _⟩
        · clear h
          go_enter Trym.func7, Trym.ntmps7
          go_wp2_with (go_at_call 18; refine (sbytes_yes _ _ _ _ _ _ _ _ (by omega)).mono ?_; rintro e w' ⟨rfl, rfl⟩)
          go_ret
          exact ⟨rfl, Below.refl _ _⟩
      · clear h
        go_enter Trym.func7, Trym.ntmps7
        go_wp2_with (go_at_call 18; refine (sbytes_yes _ _ _ _ _ _ _ _ (by omega)).mono ?_; rintro e w' ⟨rfl, rfl⟩)
        go_ret
        exact ⟨rfl, Below.refl _ _⟩
    · clear h
      go_enter Trym.func7, Trym.ntmps7
      go_wp2_with (go_at_call 18; refine (sbytes_yes _ _ _ _ _ _ _ _ (by omega)).mono ?_; rintro e w' ⟨rfl, rfl⟩)
      go_ret
      exact ⟨rfl, Below.refl _ _⟩
  · clear h
    go_enter Trym.func7, Trym.ntmps7
    go_wp2_with (go_at_call 18; refine (sbytes_no _ _ _ _ _ _ _ _ (by omega) HM.out).mono ?_; rintro e w' ⟨rfl, rfl⟩)
    go_ret
    exact ⟨rfl, Below.refl _ _⟩
end Go.Proofs.Qxb6614601aMods
