import Derived.Test.Qxb6614601aModsLessWalk
namespace Go.Proofs.Qxb6614601aMods
open Go.RowKit
set_option linter.unusedVariables false

theorem zless_yes (b n c i j : Nat) (x y : Int) (w : World) (hn : n ≤ 65536) (hi : i < n) (hj : j < n) (h : x < y)
    (hx : w.cell? ⟨b, i, none⟩ = some (.int .u64 x)) (hy : w.cell? ⟨b, j, none⟩ = some (.int .u64 y)) :
    Calls Trym.prog 13 #[.slice (some ⟨b, 0, none⟩) n c, .int .i64 i, .int .i64 j] w fun e w' => e = .returned (.bool true) ∧ ∃ m, w' = w.drewN m :=
  (zless_any b 0 n c i j x y w hn hi hj (by rw [Nat.zero_add]; exact hx) (by rw [Nat.zero_add]; exact hy)).mono fun e w' ⟨he, hw⟩ => ⟨by rw [he, decide_eq_true h], hw⟩
theorem zless_no (b n c i j : Nat) (x y : Int) (w : World) (hn : n ≤ 65536) (hi : i < n) (hj : j < n) (h : ¬ x < y)
    (hx : w.cell? ⟨b, i, none⟩ = some (.int .u64 x)) (hy : w.cell? ⟨b, j, none⟩ = some (.int .u64 y)) :
    Calls Trym.prog 13 #[.slice (some ⟨b, 0, none⟩) n c, .int .i64 i, .int .i64 j] w fun e w' => e = .returned (.bool false) ∧ ∃ m, w' = w.drewN m :=
  (zless_any b 0 n c i j x y w hn hi hj (by rw [Nat.zero_add]; exact hx) (by rw [Nat.zero_add]; exact hy)).mono fun e w' ⟨he, hw⟩ => ⟨by rw [he, decide_eq_false h], hw⟩

set_option maxHeartbeats 1000000 in
theorem less_in (x : Addr) (len cap : Nat) (zs : List Int) (i j k : Nat) (w : World) (hlen : len ≤ 65536) (hlc : len ≤ cap) (hz : zs.length = cap)
    (hcell : ∀ t, t < zs.length → w.cell? (x.add t) = some (.int .u64 (zs.getD t 0))) (hi : i < len) (hj : j < len) (hk : k < len) :
    Calls Trym.prog 5 #[.slice (some x) len cap, .int .i64 i, .int .i64 j, .int .i64 k] w fun e w' => e = .returned (.bool true) ∧ Below w.heap.size w w' := by
  have hmk := run_make_row' (P := Trym.prog) 29 22 (.int .u64 0) 8 Trym.underlying29 Trym.info22 rfl .i64 .i64 len (by omega) (by omega)
  have hne := fun (w : World) (a : Option Addr) (n c : Nat) => run_neq_slice_nil_any (P := Trym.prog) w 29 22 a n c 0 0 Trym.underlying29
  obtain ⟨w2, hcp, hc, hb⟩ := copied x len cap zs w hlc hz hcell
  have hx := hc i hi
  have hy := hc j hj
  have hw := hc k hk
  clear hcell hz hlc hc
  have HB : Hid (Below w.heap.size w w2) := hb
  clear hb
  generalize zs.getD i 0 = X at hx
  generalize zs.getD j 0 = Y at hy
  generalize zs.getD k 0 = Z at hw
  clear zs
  rcases Int.lt_trichotomy X Y with hxy | hxy | hxy
  · have hq : (X != Y) = true := bne_iff_ne.2 (by omega)
    go_enter Trym.func5, Trym.ntmps5
    go_wp2_with (go_at_call 12; refine (bytes_yes _ _ _ _ _ _ _ (by omega)).mono ?_; rintro e w' ⟨rfl, rfl⟩)
    refine (zless_yes _ _ _ _ _ X Y _ hlen hi hj (by omega) ?_ ?_).mono ?_
    · exact hx
    · exact hy
    rintro e w' ⟨rfl, m1, rfl⟩
    go_wp2_with fail
    refine (zless_no _ _ _ _ _ Y X _ hlen hj hi (by omega) ?_ ?_).mono ?_
    · exact hy
    · exact hx
    rintro e w' ⟨rfl, m2, rfl⟩
    go_wp2_with fail
    go_quiet (fail)
    go_wp2_with fail
    refine (zless_no _ _ _ _ _ X X _ hlen hi hi (by omega) ?_ ?_).mono ?_
    · exact hx
    · exact hx
    rintro e w' ⟨rfl, m3, rfl⟩
    go_wp2_with fail
    by_cases hyz : Y < Z
    · refine (zless_yes _ _ _ _ _ Y Z _ hlen hj hk (by omega) ?_ ?_).mono ?_
      · exact hy
      · exact hw
      rintro e w' ⟨rfl, m4, rfl⟩
      go_wp2_with fail
      refine (zless_yes _ _ _ _ _ X Z _ hlen hi hk (by omega) ?_ ?_).mono ?_
      · exact hx
      · exact hw
      rintro e w' ⟨rfl, m5, rfl⟩
      go_wp2
      go_ret
      exact ⟨rfl, below_drewN HB.out _⟩
    · refine (zless_no _ _ _ _ _ Y Z _ hlen hj hk (by omega) ?_ ?_).mono ?_
      · exact hy
      · exact hw
      rintro e w' ⟨rfl, m4, rfl⟩
      go_wp2
      go_ret
      exact ⟨rfl, below_drewN HB.out _⟩
  · subst hxy
    go_enter Trym.func5, Trym.ntmps5
    go_wp2_with (go_at_call 12; refine (bytes_yes _ _ _ _ _ _ _ (by omega)).mono ?_; rintro e w' ⟨rfl, rfl⟩)
    refine (zless_no _ _ _ _ _ X X _ hlen hi hj (by omega) ?_ ?_).mono ?_
    · exact hx
    · exact hy
    rintro e w' ⟨rfl, m1, rfl⟩
    go_wp2_with fail
    refine (zless_no _ _ _ _ _ X X _ hlen hj hi (by omega) ?_ ?_).mono ?_
    · exact hy
    · exact hx
    rintro e w' ⟨rfl, m2, rfl⟩
    go_wp2_with fail
    go_quiet (fail)
    go_wp2_with fail
    refine (zless_no _ _ _ _ _ X X _ hlen hi hi (by omega) ?_ ?_).mono ?_
    · exact hx
    · exact hx
    rintro e w' ⟨rfl, m3, rfl⟩
    go_wp2
    go_ret
    exact ⟨rfl, below_drewN HB.out _⟩
  · have hq : (X != Y) = true := bne_iff_ne.2 (by omega)
    go_enter Trym.func5, Trym.ntmps5
    go_wp2_with (go_at_call 12; refine (bytes_yes _ _ _ _ _ _ _ (by omega)).mono ?_; rintro e w' ⟨rfl, rfl⟩)
    refine (zless_no _ _ _ _ _ X Y _ hlen hi hj (by omega) ?_ ?_).mono ?_
    · exact hx
    · exact hy
    rintro e w' ⟨rfl, m1, rfl⟩
    go_wp2_with fail
    refine (zless_yes _ _ _ _ _ Y X _ hlen hj hi (by omega) ?_ ?_).mono ?_
    · exact hy
    · exact hx
    rintro e w' ⟨rfl, m2, rfl⟩
    go_wp2_with fail
    go_quiet (fail)
    go_wp2_with fail
    refine (zless_no _ _ _ _ _ X X _ hlen hi hi (by omega) ?_ ?_).mono ?_
    · exact hx
    · exact hx
    rintro e w' ⟨rfl, m3, rfl⟩
    go_wp2
    go_ret
    exact ⟨rfl, below_drewN HB.out _⟩
end Go.Proofs.Qxb6614601aMods
