import Derived.Test.Qxb6616569aModsProg
import Derived.WalkKit
import Derived.WalkLawsBesides
import Derived.WalkSpells
namespace Go.Proofs.Qxb6616569aMods
open Go.RowKit

theorem pre_yes (s p : ByteArray) (w : World) (hs : s.size ≤ 1048576) (h : p.size ≤ s.size) :
    Calls Trym.prog 25 #[.string s, .string p] w fun e w' => e = .returned (.bool ((s.extract 0 p.size).toList == p.toList)) ∧ w = w' := by
  have h2 : p.size ≤ 1048576 := by omega
  go_enter Trym.func25, Trym.ntmps25
  go_wp2
  go_ret
  exact ⟨rfl, rfl⟩
theorem pre_no (s p : ByteArray) (w : World) (_hs : s.size ≤ 1048576) (_hp : p.size ≤ 2000000) (h : ¬ p.size ≤ s.size) :
    Calls Trym.prog 25 #[.string s, .string p] w fun e w' => e = .returned (.bool false) ∧ w = w' := by
  go_enter Trym.func25, Trym.ntmps25
  go_wp2
  go_ret
  exact ⟨rfl, rfl⟩

theorem dir_empty (d : ByteArray) (w : World) (h : d.toList.isEmpty = true) :
    Calls Trym.prog 23 #[.string d] w fun e w' => e = .returned (.string { data := #[] }) ∧ w = w' := by
  go_enter Trym.func23, Trym.ntmps23
  go_wp2
  go_ret
  exact ⟨rfl, rfl⟩
theorem dir_some (d : ByteArray) (w : World) (hd : d.size ≤ 1048576) (h : d.toList.isEmpty = false) :
    Calls Trym.prog 23 #[.string d] w fun e w' => e = .returned (.string (d ++ { data := #[47] })) ∧ w = w' := by
  go_enter Trym.func23, Trym.ntmps23
  go_wp2
  go_ret
  exact ⟨rfl, rfl⟩

/-- The byte of a slash, as a string. -/
def sl : ByteArray := { data := #[47] }
theorem size_sl (d : ByteArray) : (d ++ sl).size = d.size + 1 := by rw [ByteArray.size_append]; rfl
theorem ret_bool {a b : Bool} (h : a = b) : Ending.returned (.bool a) = .returned (.bool b) := by rw [h]

/-- Where the directory is the top of the tree every other path lies below it. -/
theorem below_top (p d : ByteArray) (w : World) (hp : p.size ≤ 1048576) (hne : (p.toList == d.toList) = false) (h : d.toList.isEmpty = true) :
    Calls Trym.prog 16 #[.string p, .string d] w fun e w' => e = .returned (.bool true) ∧ w = w' := by
  go_enter Trym.func16, Trym.ntmps16
  go_wp2_with (first
    | (go_at_call 23; refine (dir_empty _ _ h).mono ?_; rintro e w' ⟨rfl, rfl⟩)
    | (go_at_call 25; refine (pre_yes _ _ _ hp (Nat.zero_le _)).mono ?_; rintro e w' ⟨rfl, rfl⟩)
    | go_in)
  go_ret
  exact ⟨rfl, rfl⟩
/-- Elsewhere: the directory's path, a slash and more. -/
theorem below_in (p d : ByteArray) (w : World) (hp : p.size ≤ 1048576) (hd : d.size + 1 ≤ p.size) (hne : (p.toList == d.toList) = false) (h : d.toList.isEmpty = false) :
    Calls Trym.prog 16 #[.string p, .string d] w fun e w' => e = .returned (.bool ((p.extract 0 (d.size + 1)).toList == (d ++ { data := #[47] }).toList)) ∧ w = w' := by
  go_enter Trym.func16, Trym.ntmps16
  go_wp2_with (first
    | (go_at_call 23; refine (dir_some _ _ (by omega) h).mono ?_; rintro e w' ⟨rfl, rfl⟩)
    | (go_at_call 25; refine (pre_yes _ _ _ hp (by have := size_sl d; simp only [sl] at this; omega)).mono ?_; rintro e w' ⟨rfl, rfl⟩)
    | go_in)
  go_ret
  exact ⟨rfl, rfl⟩
theorem below_not (p d : ByteArray) (w : World) (hp : p.size ≤ 1048576) (hd : d.size ≤ 1048576) (hpd : p.size < d.size + 1) (hne : (p.toList == d.toList) = false) (h : d.toList.isEmpty = false) :
    Calls Trym.prog 16 #[.string p, .string d] w fun e w' => e = .returned (.bool false) ∧ w = w' := by
  have hz := size_sl d
  simp only [sl] at hz
  go_enter Trym.func16, Trym.ntmps16
  go_wp2_with (first
    | (go_at_call 23; refine (dir_some _ _ (by omega) h).mono ?_; rintro e w' ⟨rfl, rfl⟩)
    | (go_at_call 25; refine (pre_no _ _ _ hp (by omega) (by omega)).mono ?_; rintro e w' ⟨rfl, rfl⟩)
    | go_in)
  go_ret
  exact ⟨rfl, rfl⟩
end Go.Proofs.Qxb6616569aMods
