import Derived.Test.Qxb6614915aModsProg
import Derived.Test.Qxb6614915aModsPlain
import Derived.WalkLawsBesides
import Derived.WalkSpells
import Derived.BigQuiet
import Derived.Deep.QuietTactic
namespace Go.Proofs.Qxb6614915aMods
open Go.RowKit
set_option linter.unusedVariables false

/-- A slice of strings in memory, nil and empty ones too: where it has an element its address is a plain one, and the cells hold the strings. -/
def Row (w : World) (a : Option Addr) (ss : List ByteArray) : Prop :=
  ∀ t, t < ss.length → ∃ b off, a = some ⟨b, off, none⟩ ∧ w.cell? ⟨b, off + t, none⟩ = some (.string (ss.getD t ByteArray.empty))

theorem take_succ_getD (ss : List ByteArray) (k : Nat) (h : k < ss.length) : ss.take (k + 1) = ss.take k ++ [ss.getD k ByteArray.empty] := by
  rw [List.take_succ_eq_append_getElem h, List.getD_eq_getElem?_getD, List.getElem?_eq_getElem h]; rfl

theorem mem_of_take {ss : List ByteArray} {s : ByteArray} (k : Nat) (h : mem (ss.take k) s = true) : mem ss s = true := by
  unfold mem at h ⊢
  rw [List.any_eq_true] at h ⊢
  obtain ⟨x, hx, e⟩ := h
  exact ⟨x, List.mem_of_mem_take hx, e⟩
theorem ret_bool {a b : Bool} (h : a = b) : Ending.returned (.bool a) = .returned (.bool b) := by rw [h]

/-- 'containsStringB1'. -/
theorem contains_any (a : Option Addr) (c : Nat) (ss : List ByteArray) (s : ByteArray) (w : World) (hn : ss.length ≤ 65537) (hr : Row w a ss) :
    Calls Trym.prog 19 #[.slice a ss.length c, .string s] w fun e w' => e = .returned (.bool (mem ss s)) ∧ w = w' := by
  have HR : Hid (Row w a ss) := hr
  clear hr
  obtain ⟨n, hnn⟩ : ∃ n, ss.length = n := ⟨_, rfl⟩
  rw [hnn] at hn ⊢
  have HN : Hid (ss.length = n) := hnn
  clear hnn
  go_enter Trym.func19, Trym.ntmps19
  go_wp2
  go_loop [5] (fun v => ∃ k : Nat, k ≤ n ∧ v = .int .i64 k ∧ Hid (mem (ss.take k) s = false)) (fun v => n - (intOf v).toNat)
  case atStart => exact ⟨0, Nat.zero_le _, rfl, rfl⟩
  case round =>
    obtain ⟨k, hk, rfl, hm⟩ := hrel
    by_cases hlt : k < n
    · obtain ⟨b, off, rfl, hc⟩ := HR.out k (by rw [HN.out]; exact hlt)
      have hk1 : (k : Int) < (n : Int) := by omega
      have HT : Hid (ss.take (k + 1) = ss.take k ++ [ss.getD k ByteArray.empty]) := take_succ_getD ss k (by rw [HN.out]; exact hlt)
      generalize ss.getD k ByteArray.empty = x at hc HT
      go_wp2
      · go_ret
        have hh : (x.toList == s.toList) = true := by assumption
        exact ⟨ret_bool (mem_of_take (k + 1) (by rw [HT.out, mem_snoc, hh, Bool.or_true])).symm, rfl⟩
      · have hh : (x.toList == s.toList) = false := by assumption
        go_round
        case rel => exact ⟨k + 1, by omega, by go_num, show _ = _ by rw [HT.out, mem_snoc, hm.out, hh]; rfl⟩
        case measure => simp [intOf]; omega
    · obtain rfl : k = n := by omega
      go_wp2
      go_ret
      have hf : mem ss s = false := by have := hm.out; rwa [← HN.out, List.take_length] at this
      exact ⟨ret_bool hf.symm, rfl⟩

/-- .. at a length that is written otherwise, the answer named. -/
theorem contains_is (a : Option Addr) (n c : Nat) (ss : List ByteArray) (s : ByteArray) (b : Bool) (w : World) (hl : ss.length = n) (hn : n ≤ 65537) (hr : Row w a ss) (h : mem ss s = b) :
    Calls Trym.prog 19 #[.slice a n c, .string s] w fun e w' => e = .returned (.bool b) ∧ w' = w := by
  subst hl; subst h
  exact (contains_any a c ss s w hn hr).mono fun e w' ⟨he, hw⟩ => ⟨he, hw.symm⟩

theorem Row.take {w : World} {a : Option Addr} {ss : List ByteArray} (h : Row w a ss) (k : Nat) : Row w a (ss.take k) := by
  intro t ht
  rw [List.length_take] at ht
  obtain ⟨b, off, e, hc⟩ := h t (by omega)
  refine ⟨b, off, e, ?_⟩
  rw [hc, List.getD_eq_getElem?_getD, List.getD_eq_getElem?_getD, List.getElem?_take, if_pos (by omega)]
theorem Row.drewN {w : World} {a : Option Addr} {ss : List ByteArray} (h : Row w a ss) (m : Nat) : Row (w.drewN m) a ss := h

theorem ret_int {k : IntKind} {a b : Int} (h : a = b) : Ending.returned (.int k a) = .returned (.int k b) := by rw [h]

theorem drewN_more {w wr : World} (h : ∃ m, wr = w.drewN m) (n : Nat) : ∃ m, wr.drewN n = w.drewN m := by
  obtain ⟨m, rfl⟩ := h; exact ⟨m + n, World.drewN_drewN _ _ _⟩

set_option maxHeartbeats 400000 in
/-- 'distinctCountB1'. -/
theorem distinct_any (a : Option Addr) (n c : Nat) (ss : List ByteArray) (w : World) (hl : ss.length = n) (hn : n ≤ 65537) (hc : n ≤ c) (hr : Row w a ss) :
    Calls Trym.prog 20 #[.slice a n c] w fun e w' => e = .returned (.int .i64 (dc ss)) ∧ ∃ m, w' = w.drewN m := by
  have HR : Hid (Row w a ss) := hr
  have HL : Hid (ss.length = n) := hl
  clear hr hl
  go_enter Trym.func20, Trym.ntmps20
  go_wp2
  go_loopw [3, 4] (fun v i wr => ∃ k : Nat, k ≤ n ∧ i = .int .i64 k ∧ v = .int .i64 (dcTo ss k : Nat) ∧ ∃ m, wr = w.drewN m) (fun _ i _ => n - (intOf i).toNat)
  case atStart => exact ⟨0, Nat.zero_le _, rfl, rfl, 0, rfl⟩
  case round =>
    obtain ⟨k, hk, rfl, rfl, hwr⟩ := hrel
    have HW : Hid (∃ m, wr = w.drewN m) := hwr
    have HRr : Hid (Row wr a ss) := by obtain ⟨m, rfl⟩ := hwr; exact HR.out.drewN m
    clear hwr
    by_cases hlt : k < n
    · have hlt' : k < ss.length := by rw [HL.out]; exact hlt
      obtain ⟨b, off, rfl, hcell⟩ := HRr.out k hlt'
      have hk1 : (k : Int) < (n : Int) := by omega
      have hk2 : (k : Int) ≤ (c : Int) := by omega
      have hdl := dcTo_le ss k
      have HS : Hid (dcTo ss (k + 1) = dcTo ss k + if mem (ss.take k) (ss.getD k ByteArray.empty) then 0 else 1) := rfl
      have HT : Hid ((ss.take k).length = k) := by show _ = _; rw [List.length_take]; omega
      generalize ss.getD k ByteArray.empty = x at hcell HS
      generalize hq : dcTo ss k = q at hdl HS
      cases hm : mem (ss.take k) x
      · have HM : Hid (mem (ss.take k) x = false) := hm
        clear hm
        go_wp2
        go_quiet ((go_at_call 19; exact Calls.quiet_of_same (contains_is _ _ _ (ss.take k) _ _ _ HT.out (by omega) ((HRr.out.take k).drewN _) HM.out)))
        go_wp2
        go_roundw
        case rel => exact ⟨k + 1, by omega, by go_num, by rw [HS.out, HM.out]; go_num, drewN_more HW.out _⟩
        case measure => simp [intOf]; omega
      · have HM : Hid (mem (ss.take k) x = true) := hm
        clear hm
        go_wp2
        go_quiet ((go_at_call 19; exact Calls.quiet_of_same (contains_is _ _ _ (ss.take k) _ _ _ HT.out (by omega) ((HRr.out.take k).drewN _) HM.out)))
        go_wp2
        go_roundw
        case rel => exact ⟨k + 1, by omega, by go_num, by rw [HS.out, HM.out]; go_num, drewN_more HW.out _⟩
        case measure => simp [intOf]; omega
    · obtain rfl : k = n := by omega
      go_wp2
      go_ret
      exact ⟨ret_int (by rw [dc, HL.out]), HW.out⟩
end Go.Proofs.Qxb6614915aMods
