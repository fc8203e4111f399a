import Derived.Test.Qxb6614601aModsProg
import Derived.WalkKit
import Derived.WalkLawsBesides
import Derived.WalkSpells
import Derived.BigQuiet
import Derived.Deep.QuietTactic
import Derived.Deep.OwnRows
namespace Go.Proofs.Qxb6614601aMods
open Go.RowKit
set_option linter.unusedVariables false

/-- 'pointAt': the point that shares v; no identifier; accepted. -/
theorem at_any (d : Int) (a : Option Addr) (n c : Nat) (w : World) :
    Calls Trym.prog 24 #[.agg #[.int .i64 d], .slice a n c] w fun e w' => e = .returned (.tuple #[.agg #[.slice a n c, .pointer none], .bool true]) ∧
      (w.alloc (.cells #[.int .i64 d] 33)).alloc (.cells #[.slice a n c, .pointer none] 40) = w' := by
  go_enter Trym.func24, Trym.ntmps24
  go_wp2
  exact bodyPost_ret (v := .tuple #[.agg #[.slice a n c, .pointer none], .bool true]) (by simp [results, Trym.results24, go_sem]) rfl ⟨rfl, rfl⟩
theorem pt_any (d : Int) (a : Option Addr) (n c : Nat) (w : World) :
    Calls Trym.prog 16 #[.agg #[.int .i64 d], .slice a n c] w fun e w' => e = .returned (.tuple #[.agg #[.slice a n c, .pointer none], .bool true]) ∧
      (((w.alloc (.cells #[.int .i64 d] 33)).alloc (.cells #[.slice a n c, .pointer none] 40)).alloc (.cells #[.int .i64 d] 33)).alloc (.cells #[.slice a n c, .pointer none] 40) = w' := by
  go_enter Trym.func16, Trym.ntmps16
  go_wp2_with (go_at_call 24; refine (at_any _ _ _ _ _).mono ?_; rintro e w' ⟨rfl, rfl⟩)
  exact bodyPost_ret (v := .tuple #[.agg #[.slice a n c, .pointer none], .bool true]) (by simp [results, Trym.results16, go_sem]) rfl ⟨rfl, rfl⟩
theorem eu_any (d : Int) (w : World) :
    Calls Trym.prog 14 #[.int .i64 d] w fun e w' => e = .returned (.agg #[.int .i64 d]) ∧ w.alloc (.cells #[.int .i64 d] 33) = w' := by
  go_enter Trym.func14, Trym.ntmps14
  go_wp2
  exact bodyPost_ret (v := .agg #[.int .i64 d]) (by simp [results, Trym.results14, go_sem]) rfl ⟨rfl, rfl⟩

end Go.Proofs.Qxb6614601aMods
