import Derived.Test.Qxb6614601aModsProg
import Derived.WalkKit
import Derived.WalkLawsBesides
import Derived.WalkSpells
import Derived.BigQuiet
import Derived.Deep.QuietTactic
namespace Go.Proofs.Qxb6614601aMods
open Go.RowKit
set_option linter.unusedVariables false

theorem less_any (b off n c i j : Nat) (x y : Int) (w : World) (hn : n ≤ 65536) (hi : i < n) (hj : j < n)
    (hx : w.cell? ⟨b, off + i, none⟩ = some (.int .u64 x)) (hy : w.cell? ⟨b, off + j, none⟩ = some (.int .u64 y)) :
    Calls Trym.prog 22 #[.slice (some ⟨b, off, none⟩) n c, .int .i64 i, .int .i64 j] w fun e w' => e = .returned (.bool (decide (x < y))) ∧ ∃ m, w' = w.drewN m := by
  have hi1 : (i : Int) < (n : Int) := by omega
  have hj1 : (j : Int) < (n : Int) := by omega
  go_enter Trym.func22, Trym.ntmps22
  go_wp2
  go_quiet (fail)
  go_wp2
  go_ret
  exact ⟨rfl, _, rfl⟩
theorem zless_any (b off n c i j : Nat) (x y : Int) (w : World) (hn : n ≤ 65536) (hi : i < n) (hj : j < n)
    (hx : w.cell? ⟨b, off + i, none⟩ = some (.int .u64 x)) (hy : w.cell? ⟨b, off + j, none⟩ = some (.int .u64 y)) :
    Calls Trym.prog 13 #[.slice (some ⟨b, off, none⟩) n c, .int .i64 i, .int .i64 j] w fun e w' => e = .returned (.bool (decide (x < y))) ∧ ∃ m, w' = w.drewN m := by
  go_enter Trym.func13, Trym.ntmps13
  go_wp2_with (go_at_call 22; refine (less_any _ _ _ _ _ _ x y _ hn hi hj hx hy).mono ?_; rintro e w' ⟨rfl, m, rfl⟩)
  go_ret
  exact ⟨rfl, _, rfl⟩

theorem bytes_yes (a : Option Addr) (n c : Nat) (x y z : Value) (w : World) (hs : n ≤ 1048576) : Calls Trym.prog 12 #[.slice a n c, x, y, z] w fun e w' => e = .returned (.bool true) ∧ w = w' := by
  go_enter Trym.func12, Trym.ntmps12
  go_wp2
  go_ret
  exact ⟨rfl, rfl⟩
theorem bytes_no (a : Option Addr) (n c : Nat) (x y z : Value) (w : World) (hs : ¬ n ≤ 1048576) (hm : n ≤ maxLen) : Calls Trym.prog 12 #[.slice a n c, x, y, z] w fun e w' => e = .returned (.bool false) ∧ w = w' := by
  unfold maxLen at hm
  go_enter Trym.func12, Trym.ntmps12
  go_wp2
  go_ret
  exact ⟨rfl, rfl⟩
end Go.Proofs.Qxb6614601aMods
