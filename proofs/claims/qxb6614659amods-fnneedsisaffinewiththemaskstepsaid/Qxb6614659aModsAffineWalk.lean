import Derived.Test.Qxb6614659aModsAffine
import Derived.Deep.RegionHeld3
namespace Go.Proofs.Qxb6614659aMods
open Go.RowKit

theorem gostr_any (s : ByteArray) (w : World) : Calls Trym.prog 7 #[.string s] w fun e w' => e = .returned (.string { data := #[91, 114, 101, 100, 97, 99, 116, 101, 100, 93] }) ∧ w = w' := by
  go_enter Trym.func7, Trym.ntmps7
  go_wp2
  go_ret
  exact ⟨rfl, rfl⟩

theorem bytes_any (s : ByteArray) (a b c : Value) (w : World) (hs : s.size ≤ 1048576) : Calls Trym.prog 8 #[.string s, a, b, c] w fun e w' => e = .returned (.bool true) ∧ w = w' := by
  go_enter Trym.func8, Trym.ntmps8
  go_wp2
  go_ret
  exact ⟨rfl, rfl⟩
theorem bytes_no (s : ByteArray) (a b c : Value) (w : World) (hs : ¬ s.size ≤ 1048576) (hm : s.size ≤ maxLen) : Calls Trym.prog 8 #[.string s, a, b, c] w fun e w' => e = .returned (.bool false) ∧ w = w' := by
  unfold maxLen at hm
  go_enter Trym.func8, Trym.ntmps8
  go_wp2
  go_ret
  exact ⟨rfl, rfl⟩

theorem wrapEq (x : Int) : IntKind.i64.wrap x = wrap64 x := by rw [IntKind.wrap_i64]; unfold wrap64; omega
theorem test_no {L n m : Int} (h : wrap64 (needs L (wrap64 (n + m)) + L) = wrap64 (needs L n + needs L m)) :
    (IntKind.i64.wrap (needs L (IntKind.i64.wrap (n + m)) + L) != IntKind.i64.wrap (needs L n + needs L m)) = false := by
  rw [wrapEq, wrapEq, wrapEq, h]; exact bne_self_eq_false _

set_option maxHeartbeats 1600000 in
theorem affine_in (s : ByteArray) (L n m : Int) (w : World) (hs : s.size ≤ 1048576) (h0 : 0 ≤ L) (h1 : L ≤ 9223372036854775791) :
    Calls Trym.prog 4 #[.string s, .int .i64 L, .int .i64 n, .int .i64 m] w fun e w' => e = .returned (.bool true) ∧ Grown w w' := by
  go_enter Trym.func4, Trym.ntmps4
  go_wp2_with (first
    | (go_at_call 7; refine (gostr_any _ _).mono ?_; rintro e w' ⟨rfl, rfl⟩)
    | (go_at_call 8; refine (bytes_any _ _ _ _ _ hs).mono ?_; rintro e w' ⟨rfl, rfl⟩)
    | (go_at_call 9; refine (new_any _ _).mono ?_; rintro e w' ⟨rfl, rfl⟩)
    | (go_at_call 10; refine (needs_any _ _ _ _ (by omega) (by omega)).mono ?_; rintro e w' ⟨rfl, rfl⟩))
  go_region_held3 (fun w' => w'.cell? ⟨w.heap.size + 1, 0, none⟩ = some (.pointer none) ∧ w'.cell? ⟨w.heap.size + 1, 1, none⟩ = some (.int .i64 L)) ((refine ⟨?_, ?_⟩ <;> go_simp)) (first | (go_at_call 10; refine (needs_any _ _ _ _ ?_ ?_).mono ?_; omega; omega; rintro e w' ⟨rfl, rfl⟩))
  have e1 := affine_plain L n m
  have e2 := step_plain L h0 h1
  have e3 := needs_zero L h0 h1
  rw [e2]
  rw [e3] at e1 ⊢
  clear e2 e3
  have e4 := test_no e1
  rw [e4]
  clear e1 e4
  have p1 := perByte_ge L
  have p2 := perByte_up L h0
  have p3 := perByte_cov L
  by_cases hp : perByte L = 1
  · rw [hp] at p3 ⊢
    clear p1 p2 hp
    go_wp2
    go_ret
    exact ⟨rfl, by repeat (first | exact Grown.refl _ | apply Grown.drew | apply Grown.alloc)⟩
  · have p4 := perByte_least L hp
    go_wp2
    go_ret
    exact ⟨rfl, by repeat (first | exact Grown.refl _ | apply Grown.drew | apply Grown.alloc)⟩

/-- The ways that say true at once. -/
theorem affine_out (s : ByteArray) (L n m : Int) (w : World) (hm : s.size ≤ maxLen) (h : ¬ (s.size ≤ 1048576 ∧ 0 ≤ L ∧ L ≤ 9223372036854775791)) :
    Calls Trym.prog 4 #[.string s, .int .i64 L, .int .i64 n, .int .i64 m] w fun e w' => e = .returned (.bool true) ∧ Grown w w' := by
  by_cases hs : s.size ≤ 1048576
  · by_cases h0 : 0 ≤ L
    · have h1 : 9223372036854775791 < L := by omega
      clear h hm
      go_enter Trym.func4, Trym.ntmps4
      go_wp2_with (go_at_call 8; refine (bytes_any _ _ _ _ _ hs).mono ?_; rintro e w' ⟨rfl, rfl⟩)
      go_ret
      exact ⟨rfl, Grown.refl _⟩
    · clear h hm
      go_enter Trym.func4, Trym.ntmps4
      go_wp2_with (go_at_call 8; refine (bytes_any _ _ _ _ _ hs).mono ?_; rintro e w' ⟨rfl, rfl⟩)
      go_ret
      exact ⟨rfl, Grown.refl _⟩
  · clear h
    go_enter Trym.func4, Trym.ntmps4
    go_wp2_with (go_at_call 8; refine (bytes_no _ _ _ _ _ hs hm).mono ?_; rintro e w' ⟨rfl, rfl⟩)
    go_ret
    exact ⟨rfl, Grown.refl _⟩
end Go.Proofs.Qxb6614659aMods
