import Derived.Test.Qxb6614601aModsBounds
import Derived.Test.Qxb6614601aModsFloat
import Derived.LaidEqlPtr
namespace Go.Proofs.Qxb6614601aMods
open Go.RowKit
set_option linter.unusedVariables false

theorem zb_any (d : Nat) (w : World) (h1 : 1 ≤ d) (h4 : d ≤ 4) :
    Calls Trym.prog 15 #[.agg #[.int .i64 d]] w fun e w' => ∃ g0 g1, e = .returned (.tuple #[.slice (some ⟨g0, 0, none⟩) d d, .slice (some ⟨g1, 0, none⟩) d d]) ∧
      w'.rowIs g0 44 d (fun _ => .float .f64 0) ∧ w'.rowIs g1 44 d (fun _ => .float .f64 4607182418800017408) ∧ Below w.heap.size w w' := by
  go_enter Trym.func15, Trym.ntmps15
  go_wp2_with fail
  refine (bounds_any d _ h1 h4).mono ?_
  rintro e w' ⟨g0, g1, rfl, r0, r1, hb⟩
  have HB := ((Below.refl w.heap.size w).alloc (Nat.le_refl _) (.cells #[.int .i64 d] 33)).trans (hb.mono (by simp))
  have H : Hid (w'.rowIs g0 44 d (fun _ => .float .f64 0) ∧ w'.rowIs g1 44 d (fun _ => .float .f64 4607182418800017408) ∧ Below w.heap.size w w') := ⟨r0, r1, HB⟩
  clear r0 r1 hb HB
  go_wp2
  go_ret2
  exact ⟨_, _, rfl, H.out⟩

/-- 'ZZPointAt', its own blocks not looked at. -/
theorem pt_abs (d : Int) (a : Option Addr) (n c : Nat) (w : World) :
    Calls Trym.prog 16 #[.agg #[.int .i64 d], .slice a n c] w fun e w' => e = .returned (.tuple #[.agg #[.slice a n c, .pointer none], .bool true]) ∧ Below w.heap.size w w' :=
  (pt_any d a n c w).mono fun e w' ⟨he, hw⟩ => ⟨he, by subst hw; exact ((((Below.refl _ _).alloc (Nat.le_refl _) _).alloc (by simp) _).alloc (by simp; omega) _).alloc (by simp; omega) _⟩

/-- What lay in the world lies there behind a new block. -/
theorem cell_on {w : World} {a : Addr} {v : Value} (h : w.cell? a = some v) (o : Obj) : (w.alloc o).cell? a = some v := by
  rw [((Below.refl w.heap.size w).alloc (Nat.le_refl _) o).cell (World.block_lt_of_cell? w a h)]; exact h
theorem cell_below {w w' : World} (hb : Below w.heap.size w w') {a : Addr} {v : Value} (h : w.cell? a = some v) : w'.cell? a = some v := by
  rw [hb.cell (World.block_lt_of_cell? w a h)]; exact h

set_option maxHeartbeats 1000000 in
theorem corners_in (d : Nat) (w : World) (h1 : 1 ≤ d) (h4 : d ≤ 4) :
    Calls Trym.prog 6 #[.int .i64 d] w fun e w' => e = .returned (.bool true) ∧ Below w.heap.size w w' := by
  go_enter Trym.func6, Trym.ntmps6
  go_wp2_with (go_at_call 14; refine (eu_any _ _).mono ?_; rintro e w' ⟨rfl, rfl⟩)
  refine (zb_any d _ h1 h4).mono ?_
  rintro e w1 ⟨g0, g1, rfl, r0, r1, hb⟩
  have hce : w1.cell? ⟨w.heap.size + 1, 0, none⟩ = some (.int .i64 d) := by
    rw [hb.cell (by simp)]; simp
  have HB := (((Below.refl w.heap.size w).alloc (Nat.le_refl _) (.cells #[.int .i64 d] 33)).alloc (by simp) (.cells #[.int .i64 d] 33)).trans (hb.mono (by simp; omega))
  have C0 : Hid (∀ k, k < d → w1.cell? ⟨g0, k, none⟩ = some (.float .f64 0)) := fun k hk => r0.cell hk
  have C1 : Hid (∀ k, k < d → w1.cell? ⟨g1, k, none⟩ = some (.float .f64 4607182418800017408)) := fun k hk => r1.cell hk
  have RB : Hid (Below w.heap.size w w1) := HB
  clear r0 r1 hb HB
  go_wp2_with fail
  refine (pt_abs _ _ _ _ _).mono ?_
  rintro e w2 ⟨rfl, hb2⟩
  have hce2 := fun o => cell_on (cell_below hb2 hce) o
  have D0 : Hid (∀ k, k < d → w2.cell? ⟨g0, k, none⟩ = some (.float .f64 0)) := fun k hk => cell_below hb2 (C0.out k hk)
  have D1 : Hid (∀ k, k < d → w2.cell? ⟨g1, k, none⟩ = some (.float .f64 4607182418800017408)) := fun k hk => cell_below hb2 (C1.out k hk)
  have RB2 : Hid (Below w.heap.size w w2) := RB.out.trans (hb2.mono RB.out.size)
  clear C0 C1 RB hb2 hce
  go_wp2_with fail
  refine (pt_abs _ _ _ _ _).mono ?_
  rintro e w3 ⟨rfl, hb3⟩
  have hp0 := fun o => cell_on (cell_below hb3 (show (w2.alloc (.cells #[.slice (some ⟨g1, 0, none⟩) d d, .pointer none] 40)).cell? ⟨w2.heap.size, 0, none⟩ = some (.slice (some ⟨g1, 0, none⟩) d d) by simp)) o
  have hp1 := fun o => cell_on (cell_below hb3 (show (w2.alloc (.cells #[.slice (some ⟨g1, 0, none⟩) d d, .pointer none] 40)).cell? ⟨w2.heap.size, 1, none⟩ = some (.pointer none) by simp)) o
  have E0 : Hid (∀ k, k < d → ∀ o, (w3.alloc o).cell? ⟨g0, k, none⟩ = some (.float .f64 0)) := fun k hk o => cell_on (cell_below hb3 (cell_on (D0.out k hk) _)) o
  have E1 : Hid (∀ k, k < d → ∀ o, (w3.alloc o).cell? ⟨g1, k, none⟩ = some (.float .f64 4607182418800017408)) := fun k hk o => cell_on (cell_below hb3 (cell_on (D1.out k hk) _)) o
  have RB3 : Hid (∀ o, Below w.heap.size w (w3.alloc o)) := fun o => by
    have e1 := RB2.out.alloc RB2.out.size (.cells #[.slice (some ⟨g1, 0, none⟩) d d, .pointer none] 40)
    have e2 := e1.trans (hb3.mono e1.size)
    exact e2.alloc e2.size o
  clear D0 D1 RB2 hb3 hce2
  go_wp2_with fail
  go_loop [10] (fun i => ∃ k : Nat, k ≤ d ∧ i = .int .i64 k) (fun i => d - (intOf i).toNat)
  case atStart => exact ⟨0, Nat.zero_le _, rfl⟩
  case round =>
    obtain ⟨k, hk, rfl⟩ := hrel
    by_cases hlt : k < d
    · have hc0 := E0.out k hlt
      have hc1 := E1.out k hlt
      have hi : (k : Int) < (d : Int) := by omega
      go_wp2_with (go_at_call 17; refine (same_self _ _).mono ?_; rintro e w' ⟨rfl, rfl⟩)
      go_round
      case rel => exact ⟨k + 1, by omega, by go_num⟩
      case measure => simp [intOf]; omega
    · obtain rfl : k = d := by omega
      have hi : (0 : Int) < (k : Int) := by omega
      have hi2 : 0 < k := by omega
      obtain ⟨j44, hj44, _⟩ := info_parts Trym.info44
      have heq := fun (w : World) (a : Addr) => run_eql_ptr_same (P := Trym.prog) w a Trym.underlying45 hj44
      clear hj44
      go_wp2_with fail
      go_quiet (fail)
      go_wp2
      go_ret
      exact ⟨rfl, below_drewN (RB3.out _) _⟩

theorem corners_out (d : Int) (w : World) (h : ¬ (1 ≤ d ∧ d ≤ 4)) :
    Calls Trym.prog 6 #[.int .i64 d] w fun e w' => e = .returned (.bool true) ∧ Below w.heap.size w w' := by
  by_cases h1 : 1 ≤ d
  · have h2 : 4 < d := by omega
    clear h
    go_enter Trym.func6, Trym.ntmps6
    go_wp2
    go_ret
    exact ⟨rfl, Below.refl _ _⟩
  · clear h
    go_enter Trym.func6, Trym.ntmps6
    go_wp2
    go_ret
    exact ⟨rfl, Below.refl _ _⟩
end Go.Proofs.Qxb6614601aMods
