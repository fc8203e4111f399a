import Derived.Test.Qxb6616569aModsPicksCalls
namespace Go.Proofs.Qxb6616569aMods
open Go.RowKit

theorem bytes_yes (s : ByteArray) (a b : Value) (w : World) (_hs : s.size ≤ 1048576) : Calls Trym.prog 5 #[.string s, a, b] w fun e w' => e = .returned (.bool true) ∧ w = w' := by
  go_enter Trym.func5, Trym.ntmps5
  go_wp2
  go_ret
  exact ⟨rfl, rfl⟩
theorem bytes_no (s : ByteArray) (a b : Value) (w : World) (hs : ¬ s.size ≤ 1048576) (hm : s.size ≤ maxLen) : Calls Trym.prog 5 #[.string s, a, b] w fun e w' => e = .returned (.bool false) ∧ w = w' := by
  unfold maxLen at hm
  go_enter Trym.func5, Trym.ntmps5
  go_wp2
  go_ret
  exact ⟨rfl, rfl⟩

/-- The ways that say true at once. -/
theorem picks_out (p : ByteArray) (i : Int) (ev : Bool) (w : World) (hm : p.size ≤ maxLen) (h : ¬ (p.size ≤ 65536 ∧ 0 ≤ i ∧ i ≤ p.size)) :
    Calls Trym.prog 3 #[.string p, .int .i64 i, .bool ev] w fun e w' => e = .returned (.bool true) ∧ Grown w w' := by
  by_cases hs : p.size ≤ 1048576
  · by_cases hs2 : p.size ≤ 65536
    · by_cases h0 : 0 ≤ i
      · have h1 : (p.size : Int) < i := by omega
        clear h hm
        go_enter Trym.func3, Trym.ntmps3
        go_wp2_with (go_at_call 5; refine (bytes_yes _ _ _ _ hs).mono ?_; rintro e w' ⟨rfl, rfl⟩)
        go_ret
        exact ⟨rfl, Grown.refl _⟩
      · clear h hm
        go_enter Trym.func3, Trym.ntmps3
        go_wp2_with (go_at_call 5; refine (bytes_yes _ _ _ _ hs).mono ?_; rintro e w' ⟨rfl, rfl⟩)
        go_ret
        exact ⟨rfl, Grown.refl _⟩
    · clear h hm
      go_enter Trym.func3, Trym.ntmps3
      go_wp2_with (go_at_call 5; refine (bytes_yes _ _ _ _ hs).mono ?_; rintro e w' ⟨rfl, rfl⟩)
      go_ret
      exact ⟨rfl, Grown.refl _⟩
  · clear h
    go_enter Trym.func3, Trym.ntmps3
    go_wp2_with (go_at_call 5; refine (bytes_no _ _ _ _ hs hm).mono ?_; rintro e w' ⟨rfl, rfl⟩)
    go_ret
    exact ⟨rfl, Grown.refl _⟩

theorem picks_all (p : ByteArray) (k : Nat) (w : World) (hs : p.size ≤ 65536) (hk : k ≤ p.size) :
    Calls Trym.prog 3 #[.string p, .int .i64 k, .bool true] w fun e w' => e = .returned (.bool true) ∧ Grown w w' := by
  go_enter Trym.func3, Trym.ntmps3
  go_wp2_with (first
    | (go_at_call 5; refine (bytes_yes _ _ _ _ (by omega)).mono ?_; rintro e w' ⟨rfl, rfl⟩)
    | (go_at_call 6; refine (picks_every _ _ _ _).mono ?_; rintro e w' ⟨rfl, rfl⟩))
  go_ret
  exact ⟨rfl, by repeat (first | exact Grown.refl _ | apply Grown.drew | apply Grown.alloc)⟩

theorem picks_end (p : ByteArray) (w : World) (hs : p.size ≤ 65536) :
    Calls Trym.prog 3 #[.string p, .int .i64 p.size, .bool false] w fun e w' => e = .returned (.bool true) ∧ Grown w w' := by
  go_enter Trym.func3, Trym.ntmps3
  go_wp2_with (first
    | (go_at_call 5; refine (bytes_yes _ _ _ _ (by omega)).mono ?_; rintro e w' ⟨rfl, rfl⟩)
    | (go_at_call 6; refine (picks_same _ _ _ _ ?_).mono ?_; simp; rintro e w' ⟨rfl, rfl⟩))
  all_goals
    go_ret
    exact ⟨rfl, by repeat (first | exact Grown.refl _ | apply Grown.drew | apply Grown.alloc)⟩

theorem picks_top (p : ByteArray) (w : World) (hs : p.size ≤ 65536) (h0 : 0 < p.size) :
    Calls Trym.prog 3 #[.string p, .int .i64 0, .bool false] w fun e w' => e = .returned (.bool true) ∧ Grown w w' := by
  have f1 : (p.toList == ByteArray.empty.toList) = false := by have := differ p 0 h0; rwa [ByteArray.extract_same] at this
  have f2 : (ByteArray.empty.toList == p.toList) = false := by have := differ' p 0 h0; rwa [ByteArray.extract_same] at this
  have e1 : ByteArray.empty.toList.isEmpty = true := by rw [empty_iff]; rfl
  have e2 : p.toList.isEmpty = false := by rw [empty_iff]; exact beq_false_of_ne (by omega)
  have t1 : ((0 : Int) == (p.size : Int)) = false := beq_false_of_ne (by omega)
  have b1 := fun w : World => below_top p ByteArray.empty w (by omega) f1 e1
  have b2 := fun w : World => below_not ByteArray.empty p w (Nat.zero_le _) (by omega) (Nat.succ_pos _) f2 e2
  have B1 : Hid (∀ w : World, Calls Trym.prog 16 #[.string p, .string ByteArray.empty] w fun e w' => e = .returned (.bool true) ∧ w = w') := b1
  have B2 : Hid (∀ w : World, Calls Trym.prog 16 #[.string ByteArray.empty, .string p] w fun e w' => e = .returned (.bool false) ∧ w = w') := b2
  have F1 : Hid ((p.toList == ByteArray.empty.toList) = false) := f1
  have F2 : Hid ((ByteArray.empty.toList == p.toList) = false) := f2
  clear b1 b2 f1 f2 e1 e2
  go_enter Trym.func3, Trym.ntmps3
  go_wp2_with (first
    | (go_at_call 5; refine (bytes_yes _ _ _ _ (by omega)).mono ?_; rintro e w' ⟨rfl, rfl⟩))
  refine (picks_below _ _ _ _ F1.out B1.out).mono ?_
  rintro e w' ⟨rfl, rfl⟩
  go_wp2_with fail
  refine (picks_alone _ _ _ F1.out).mono ?_
  rintro e w' ⟨rfl, rfl⟩
  go_wp2_with fail
  refine (picks_below _ _ _ _ F2.out B2.out).mono ?_
  rintro e w' ⟨rfl, rfl⟩
  go_wp2
  go_ret
  exact ⟨rfl, by repeat (first | exact Grown.refl _ | apply Grown.drew | apply Grown.alloc)⟩

theorem picks_mid (p : ByteArray) (k : Nat) (w : World) (hs : p.size ≤ 65536) (h0 : 0 < k) (hk : k < p.size) :
    Calls Trym.prog 3 #[.string p, .int .i64 k, .bool false] w fun e w' => e = .returned (.bool true) ∧ Grown w w' := by
  have f1 := differ p k hk
  have f2 := differ' p k hk
  have z1 : (p.extract 0 k).size = k := cut_len p k (by omega)
  have e1 : (p.extract 0 k).toList.isEmpty = false := by rw [empty_iff, z1]; exact beq_false_of_ne (by omega)
  have e2 : p.toList.isEmpty = false := by rw [empty_iff]; exact beq_false_of_ne (by omega)
  have t0 : ((k : Int) == 0) = false := beq_false_of_ne (by omega)
  have t1 : ((k : Int) == (p.size : Int)) = false := beq_false_of_ne (by omega)
  have b1 := fun w : World => below_in p (p.extract 0 k) w (by omega) (by omega) f1 e1
  have b2 := fun w : World => below_not (p.extract 0 k) p w (by omega) (by omega) (by omega) f2 e2
  rw [slash_iff p k hk] at b1
  have B2 : Hid (∀ w : World, Calls Trym.prog 16 #[.string (p.extract 0 k), .string p] w fun e w' => e = .returned (.bool false) ∧ w = w') := b2
  have F1 : Hid ((p.toList == (p.extract 0 k).toList) = false) := f1
  have F2 : Hid (((p.extract 0 k).toList == p.toList) = false) := f2
  clear b2 f1 f2 e1 e2 z1
  obtain ⟨bb, hbb⟩ : ∃ bb : Bool, (((p[k]'hk).toNat : Int) == 47) = bb := ⟨_, rfl⟩
  rw [hbb] at b1
  have B1 : Hid (∀ w : World, Calls Trym.prog 16 #[.string p, .string (p.extract 0 k)] w fun e w' => e = .returned (.bool bb) ∧ w = w') := b1
  clear b1
  cases bb
  all_goals
    go_enter Trym.func3, Trym.ntmps3
    go_wp2_with (first
      | (go_at_call 5; refine (bytes_yes _ _ _ _ (by omega)).mono ?_; rintro e w' ⟨rfl, rfl⟩))
    refine (picks_below _ _ _ _ F1.out B1.out).mono ?_
    rintro e w' ⟨rfl, rfl⟩
    go_wp2_with fail
    refine (picks_alone _ _ _ F1.out).mono ?_
    rintro e w' ⟨rfl, rfl⟩
    go_wp2_with fail
    refine (picks_below _ _ _ _ F2.out B2.out).mono ?_
    rintro e w' ⟨rfl, rfl⟩
    go_wp2
    go_ret
    exact ⟨rfl, by repeat (first | exact Grown.refl _ | apply Grown.drew | apply Grown.alloc)⟩
end Go.Proofs.Qxb6616569aMods
