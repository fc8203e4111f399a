import Derived.Test.Qxb6614601aModsShares
namespace Go.Proofs.Qxb6614601aMods
open Go.RowKit
set_option linter.unusedVariables false
attribute [local go_sem] run_store_float

theorem addr_add (b j : Nat) : (⟨b, 0, none⟩ : Addr).add j = ⟨b, j, none⟩ := by
  by_cases h : j = 0
  · subst h; simp [Addr.add]
  · simp [Addr.add, h]
/-- The bits behind the store at i. -/
def upd (bs : Nat → Nat) (i x : Nat) : Nat → Nat := fun t => if t = i then x else bs t
theorem upd_row {w : World} {g n i x : Nat} {bs : Nat → Nat} (h : w.rowIs g 44 n (fl bs)) : (w.setCell ⟨g, i, none⟩ (.float .f64 x)).rowIs g 44 n (fl (upd bs i x)) :=
  (h.set i _).congr fun t _ => by unfold fl upd; split <;> rfl

set_option maxHeartbeats 1000000 in
theorem shares_in (a : Addr) (n c : Nat) (bs : Nat → Nat) (i x : Nat) (d1 d2 : Int) (w : World) (hn : n ≤ 65536) (hcell : ∀ t, t < n → w.cell? (a.add t) = some (fl bs t)) (hi : i < n)
    (e1 : 1 ≤ d1) (e2 : d1 ≤ 4) (e3 : 1 ≤ d2) (e4 : d2 ≤ 4) :
    Calls Trym.prog 7 #[.slice (some a) n c, .int .i64 i, .float .f64 x, .int .i64 d1, .int .i64 d2] w fun e w' => e = .returned (.bool true) ∧ Below w.heap.size w w' := by
  have hi1 : (i : Int) < (n : Int) := by omega
  have HC : Hid (∀ t, t < n → w.cell? (a.add t) = some (fl bs t)) := hcell
  clear hcell
  go_enter Trym.func7, Trym.ntmps7
  go_wp2_with (go_at_call 18; refine (sbytes_yes _ _ _ _ _ _ _ _ (by omega)).mono ?_; rintro e w' ⟨rfl, rfl⟩)
  refine (clone_any a n c bs _ hn HC.out).mono ?_
  rintro e w1 ⟨rfl, r1, z1, b1⟩
  have HC1 : Hid (∀ t, t < n → w1.cell? ((⟨w.heap.size, 0, none⟩ : Addr).add t) = some (fl bs t)) := fun t ht => by rw [addr_add]; exact r1.cell ht
  have R1 : Hid (w1.rowIs w.heap.size 44 n (fl bs)) := r1
  have B1 : Hid (Below w.heap.size w w1) := b1
  clear r1 b1 HC z1
  go_wp2_with fail
  refine (clone_any _ n n bs _ hn HC1.out).mono ?_
  rintro e w2 ⟨rfl, r2, z2, b2⟩
  have R1' : Hid (w2.rowIs w.heap.size 44 n (fl bs)) := row_below b2 R1.out
  have R2 : Hid (w2.rowIs w1.heap.size 44 n (fl bs)) := r2
  have hg : w.heap.size ≠ w1.heap.size := Nat.ne_of_lt R1.out.lt
  have B2 : Hid (Below w.heap.size w w2) := B1.out.trans (b2.mono B1.out.size)
  clear r2 b2 z2 HC1 R1 
  go_wp2_with fail
  refine (eu_abs _ _).mono ?_
  rintro e w3 ⟨rfl, b3⟩
  have S1 : Hid (w3.rowIs w.heap.size 44 n (fl bs)) := row_below b3 R1'.out
  have S2 : Hid (w3.rowIs w1.heap.size 44 n (fl bs)) := row_below b3 R2.out
  have B3 : Hid (Below w.heap.size w w3) := B2.out.trans (b3.mono B2.out.size)
  clear b3 R1' R2 B2
  go_wp2_with fail
  refine (pt_abs _ _ _ _ _).mono ?_
  rintro e w4 ⟨rfl, b4⟩
  have T1 : Hid (w4.rowIs w.heap.size 44 n (fl bs)) := row_below b4 S1.out
  have T2 : Hid (w4.rowIs w1.heap.size 44 n (fl bs)) := row_below b4 S2.out
  have B4 : Hid (Below w.heap.size w w4) := B3.out.trans (b4.mono B3.out.size)
  clear b4 S1 S2 B3
  have c2 := fun o => cell_on (T2.out.cell hi) o
  have f2 : ∀ o, (w4.alloc o).frozen? ⟨w1.heap.size, i, none⟩ = false := fun o => (T2.out.alloc o).frozen i
  go_wp2_with fail
  refine (eu_abs _ _).mono ?_
  rintro e w5 ⟨rfl, b5⟩
  have U1 : Hid (w5.rowIs w.heap.size 44 n (fl bs)) := row_below b5 ((T1.out.alloc _).setOther hg _)
  have U2 : Hid (w5.rowIs w1.heap.size 44 n (fl (upd bs i x))) := row_below b5 (upd_row (T2.out.alloc _))
  have B5 : Hid (Below w.heap.size w w5) := by
    have e1 := (B4.out.alloc B4.out.size (.cells #[.slice (some ⟨w1.heap.size, 0, none⟩) n n, .pointer none] 40)).setCell (p := ⟨w1.heap.size, i, none⟩) B1.out.size (.float .f64 x)
    exact e1.trans (b5.mono e1.size)
  clear b5 T1 T2 B4 c2 f2
  go_wp2_with fail
  refine (pt_abs _ _ _ _ _).mono ?_
  rintro e w6 ⟨rfl, b6⟩
  have V1 : Hid (w6.rowIs w.heap.size 44 n (fl bs)) := row_below b6 U1.out
  have V2 : Hid (w6.rowIs w1.heap.size 44 n (fl (upd bs i x))) := row_below b6 U2.out
  have B6 : Hid (Below w.heap.size w w6) := B5.out.trans (b6.mono B5.out.size)
  clear b6 U1 U2 B5
  go_wp2_with fail
  go_loop [16] (fun v => ∃ k : Nat, k ≤ n ∧ v = .int .i64 k) (fun v => n - (intOf v).toNat)
  case atStart => exact ⟨0, Nat.zero_le _, rfl⟩
  case round =>
    obtain ⟨k, hk, rfl⟩ := hrel
    by_cases hlt : k < n
    · have hk1 : (k : Int) < (n : Int) := by omega
      have c1 := fun o => cell_on (V1.out.cell hlt) o
      have c2 := fun o => cell_on (V2.out.cell hlt) o
      unfold fl at c1 c2
      by_cases hki : k = i
      · subst hki
        unfold upd at c2
        rw [if_pos rfl] at c2
        go_wp2_with (go_at_call 17; refine (same_self _ _).mono ?_; rintro e w' ⟨rfl, rfl⟩)
        go_round
        case rel => exact ⟨k + 1, by omega, by go_num⟩
        case measure => simp [intOf]; omega
      · have hne : ((k : Int) == (i : Int)) = false := beq_false_of_ne (by omega)
        unfold upd at c2
        rw [if_neg hki] at c2
        go_wp2_with (go_at_call 17; refine (same_self _ _).mono ?_; rintro e w' ⟨rfl, rfl⟩)
        go_round
        case rel => exact ⟨k + 1, by omega, by go_num⟩
        case measure => simp [intOf]; omega
    · obtain rfl : k = n := by omega
      go_wp2
      go_ret
      exact ⟨rfl, B6.out.alloc B6.out.size _⟩
end Go.Proofs.Qxb6614601aMods
