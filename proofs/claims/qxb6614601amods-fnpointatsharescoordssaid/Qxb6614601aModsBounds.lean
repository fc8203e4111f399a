import Derived.Test.Qxb6614601aModsPoint
namespace Go.Proofs.Qxb6614601aMods
open Go.RowKit
set_option linter.unusedVariables false

theorem Trym.info44 : (Trym.prog.info? 44).map (fun i => (i.zero, i.size, i.bytes)) = some (some (.float .f64 0), 1, 8) := by kernel_rfl

/-- A float's store, for the walk (the kit's own set has none). -/
theorem run_store_float {P : Program} {w : World} {a : Addr} {m : Mode} (k : FloatKind) (b : Nat) : (store a (.float k b) m).run P w = stored P w a (.float k b) m := run_store P w a _ m rfl
attribute [local go_sem] run_store_float

/-- The number 1, as a float's value. -/
def one : Value := .float .f64 4607182418800017408
def zero : Value := .float .f64 0
/-- The row of hi after k rounds. -/
def upto (k : Nat) : Nat → Value := fun t => if t < k then one else zero

theorem upto_zero (w : World) (b d : Nat) (h : w.rowIs b 44 d (fun _ => .float .f64 0)) : w.rowIs b 44 d (upto 0) := h.congr fun i _ => by simp [upto, zero]
theorem upto_step {w : World} {b d k : Nat} (h : w.rowIs b 44 d (upto k)) : (w.setCell ⟨b, k, none⟩ (.float .f64 4607182418800017408)).rowIs b 44 d (upto (k + 1)) := by
  refine (h.set k _).congr fun i hi => ?_
  by_cases e : i = k
  · subst e; simp [upto, one]
  · simp only [upto, if_neg e]
    by_cases e2 : i < k
    · rw [if_pos e2, if_pos (by omega)]
    · rw [if_neg e2, if_neg (by omega)]
theorem upto_all {w : World} {b d : Nat} (h : w.rowIs b 44 d (upto d)) : w.rowIs b 44 d (fun _ => .float .f64 4607182418800017408) := h.congr fun i hi => by simp [upto, one, hi]

set_option maxHeartbeats 400000 in
theorem bounds_any (d : Nat) (w : World) (h1 : 1 ≤ d) (h4 : d ≤ 4) :
    Calls Trym.prog 23 #[.agg #[.int .i64 d]] w fun e w' => ∃ g0 g1, e = .returned (.tuple #[.slice (some ⟨g0, 0, none⟩) d d, .slice (some ⟨g1, 0, none⟩) d d]) ∧
      w'.rowIs g0 44 d (fun _ => .float .f64 0) ∧ w'.rowIs g1 44 d (fun _ => .float .f64 4607182418800017408) ∧ Below w.heap.size w w' := by
  have hmk := run_make_row' (P := Trym.prog) 35 44 (.float .f64 0) 8 Trym.underlying35 Trym.info44 rfl .i64 .i64 d (by omega) (by omega)
  have HA : Hid (((((w.alloc (.cells #[.int .i64 d] 33)).alloc (.cells (madeCells #[.float .f64 0] d) 44)).alloc (.cells (madeCells #[.float .f64 0] d) 44)).drew.rowIs (w.heap.size + 1) 44 d (fun _ => .float .f64 0)) ∧
      ((((w.alloc (.cells #[.int .i64 d] 33)).alloc (.cells (madeCells #[.float .f64 0] d) 44)).alloc (.cells (madeCells #[.float .f64 0] d) 44)).drew.rowIs (w.heap.size + 1 + 1) 44 d (fun _ => .float .f64 0)) ∧
      Below w.heap.size w (((w.alloc (.cells #[.int .i64 d] 33)).alloc (.cells (madeCells #[.float .f64 0] d) 44)).alloc (.cells (madeCells #[.float .f64 0] d) 44)).drew) := by
    refine ⟨World.rowIs.drew (World.rowIs.alloc ?_ _), World.rowIs.drew ?_, ((((Below.refl _ _).alloc (Nat.le_refl _) _).alloc ?_ _).alloc ?_ _).drew⟩
    · have := World.rowIs_made (w.alloc (.cells #[.int .i64 d] 33)) (.float .f64 0) d 44
      simpa using this
    · have := World.rowIs_made ((w.alloc (.cells #[.int .i64 d] 33)).alloc (.cells (madeCells #[.float .f64 0] d) 44)) (.float .f64 0) d 44
      simpa using this
    · simp
    · simp; omega
  go_enter Trym.func23, Trym.ntmps23
  go_wp2
  go_region
  all_goals go_wp2
  · go_loopw [13] (fun i wr => ∃ k : Nat, k ≤ d ∧ i = .int .i64 k ∧ wr.rowIs (w.heap.size + 1) 44 d (fun _ => .float .f64 0) ∧ wr.rowIs (w.heap.size + 1 + 1) 44 d (upto k) ∧ Below w.heap.size w wr) (fun i _ => d - (intOf i).toNat)
    case atStart => exact ⟨0, Nat.zero_le _, rfl, HA.out.1, upto_zero _ _ _ HA.out.2.1, HA.out.2.2⟩
    case round =>
      obtain ⟨k, hk, rfl, hr0, hr1, hb⟩ := hrel
      have R0 : Hid (wr.rowIs (w.heap.size + 1) 44 d (fun _ => .float .f64 0)) := hr0
      have R1 : Hid (wr.rowIs (w.heap.size + 1 + 1) 44 d (upto k)) := hr1
      have RB : Hid (Below w.heap.size w wr) := hb
      clear hr0 hr1 hb
      by_cases hlt : k < d
      · have hc := R1.out.cell hlt
        have hf := R1.out.frozen k
        go_wp2
        go_roundw
        case rel => exact ⟨k + 1, by omega, by go_num, R0.out.setOther (by simp) _, upto_step R1.out, RB.out.setCell (by simp; omega) _⟩
        case measure => simp [intOf]; omega
      · obtain rfl : k = d := by omega
        go_wp2
        go_ret2
        exact ⟨_, _, rfl, R0.out, upto_all R1.out, RB.out⟩
  · go_loopw [13] (fun i wr => ∃ k : Nat, k ≤ d ∧ i = .int .i64 k ∧ wr.rowIs (w.heap.size + 1 + 1) 44 d (fun _ => .float .f64 0) ∧ wr.rowIs (w.heap.size + 1) 44 d (upto k) ∧ Below w.heap.size w wr) (fun i _ => d - (intOf i).toNat)
    case atStart => exact ⟨0, Nat.zero_le _, rfl, HA.out.2.1, upto_zero _ _ _ HA.out.1, HA.out.2.2⟩
    case round =>
      obtain ⟨k, hk, rfl, hr0, hr1, hb⟩ := hrel
      have R0 : Hid (wr.rowIs (w.heap.size + 1 + 1) 44 d (fun _ => .float .f64 0)) := hr0
      have R1 : Hid (wr.rowIs (w.heap.size + 1) 44 d (upto k)) := hr1
      have RB : Hid (Below w.heap.size w wr) := hb
      clear hr0 hr1 hb
      by_cases hlt : k < d
      · have hc := R1.out.cell hlt
        have hf := R1.out.frozen k
        go_wp2
        go_roundw
        case rel => exact ⟨k + 1, by omega, by go_num, R0.out.setOther (by simp) _, upto_step R1.out, RB.out.setCell (by simp) _⟩
        case measure => simp [intOf]; omega
      · obtain rfl : k = d := by omega
        go_wp2
        go_ret2
        exact ⟨_, _, rfl, R0.out, upto_all R1.out, RB.out⟩
end Go.Proofs.Qxb6614601aMods
