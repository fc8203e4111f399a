import Derived.Test.Qxb6614915aModsFill
namespace Go.Proofs.Qxb6614915aMods
open Go.RowKit Go.Maps Go.WideMaps
set_option linter.unusedVariables false

set_option maxRecDepth 100000 in
set_option maxHeartbeats 2000000 in
/-- A length beyond 1<<16: true at once. -/
theorem more_big (r pr p q : ByteArray) (a a' : Option Addr) (n c n' c' : Nat) (ss ss' : List ByteArray) (w : World) (hl : ss.length = n) (hn : n ≤ maxLen) (hr : Row w a ss) (hl' : ss'.length = n') (hn' : n' ≤ maxLen) (hr' : Row w a' ss')
    (h : ¬ (n ≤ 65536 ∧ n' ≤ 65536 ∧ r.size ≤ 65536 ∧ pr.size ≤ 65536 ∧ p.size ≤ 65536 ∧ q.size ≤ 65536)) :
    Calls Trym.prog 5 #[.string r, .slice a n c, .string pr, .slice a' n' c', .string p, .string q] w fun e w' => e = .returned (.bool true) ∧ Below w.heap.size w w' := by
  have HZ := zz1_any r pr p q a a' n c n' c' ss ss' w hl hn hr hl' hn' hr'
  have H : Hid (Calls Trym.prog 15 #[.string r, .slice a n c, .string pr, .slice a' n' c', .string p, .string q] w fun e w' => SomeBool e ∧ w = w') := HZ
  clear HZ hl hn hr hl' hn' hr'
  by_cases h0 : n ≤ 65536
  · by_cases h1 : n' ≤ 65536
    · by_cases h2 : r.size ≤ 65536
      · by_cases h3 : pr.size ≤ 65536
        · by_cases h4 : p.size ≤ 65536
          · have h5 : 65536 < q.size := by omega
            clear h
            go_enter Trym.func5, Trym.ntmps5
            go_wp2_with (go_at_call 15; refine H.out.mono ?_; rintro e w' ⟨⟨zb, rfl⟩, rfl⟩)
            all_goals
              go_ret
              exact ⟨rfl, Below.refl _ _⟩
          · clear h
            go_enter Trym.func5, Trym.ntmps5
            go_wp2_with (go_at_call 15; refine H.out.mono ?_; rintro e w' ⟨⟨zb, rfl⟩, rfl⟩)
            all_goals
              go_ret
              exact ⟨rfl, Below.refl _ _⟩
        · clear h
          go_enter Trym.func5, Trym.ntmps5
          go_wp2_with (go_at_call 15; refine H.out.mono ?_; rintro e w' ⟨⟨zb, rfl⟩, rfl⟩)
          all_goals
            go_ret
            exact ⟨rfl, Below.refl _ _⟩
      · clear h
        go_enter Trym.func5, Trym.ntmps5
        go_wp2_with (go_at_call 15; refine H.out.mono ?_; rintro e w' ⟨⟨zb, rfl⟩, rfl⟩)
        all_goals
          go_ret
          exact ⟨rfl, Below.refl _ _⟩
    · clear h
      go_enter Trym.func5, Trym.ntmps5
      go_wp2_with (go_at_call 15; refine H.out.mono ?_; rintro e w' ⟨⟨zb, rfl⟩, rfl⟩)
      all_goals
        go_ret
        exact ⟨rfl, Below.refl _ _⟩
  · clear h
    go_enter Trym.func5, Trym.ntmps5
    go_wp2_with (go_at_call 15; refine H.out.mono ?_; rintro e w' ⟨⟨zb, rfl⟩, rfl⟩)
    all_goals
      go_ret
      exact ⟨rfl, Below.refl _ _⟩
end Go.Proofs.Qxb6614915aMods
