import Derived.Test.Qxb6614915aModsStrs
import Derived.Maps.OwnSet
import Derived.Maps.Own
namespace Go.Proofs.Qxb6614915aMods
open Go.RowKit Go.Maps
set_option linter.unusedVariables false

/-- What the counting of a member's grants reads: the struct at block g has a map of m entries and n2 teams. -/
def Member (w : World) (g m n2 : Nat) : Prop :=
  ∃ r a2 c2, w.cell? ⟨g, 1, none⟩ = some (.map r) ∧ w.cell? ⟨g, 2, none⟩ = some (.slice a2 n2 c2) ∧ ∀ ty nq, (Builtin.len_ #[48] ty #[.map r]).run Trym.prog (w.drewN nq) = .ok (.int .i64 m) (w.drewN nq)

theorem grants_any (g m n2 : Nat) (w : World) (hm : m ≤ 65537) (hn : n2 ≤ 65537) (h : Member w g m n2) :
    Calls Trym.prog 17 #[.pointer (some ⟨g, 0, none⟩)] w fun e w' => e = .returned (.int .i64 (1 + (m : Int) + (n2 : Int))) ∧ ∃ q, w' = w.drewN q := by
  obtain ⟨r, a2, c2, h1, h2, h3⟩ := h
  go_enter Trym.func17, Trym.ntmps17
  go_wp2
  go_quiet (fail)
  go_wp2
  go_ret
  exact ⟨rfl, _, rfl⟩
end Go.Proofs.Qxb6614915aMods
