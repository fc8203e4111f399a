import Derived.Test.Qxb6614915aModsStrs
import Derived.Deep.RegionWith
namespace Go.Proofs.Qxb6614915aMods
open Go.RowKit
set_option linter.unusedVariables false

set_option maxHeartbeats 800000 in
/-- 'sharedCountB1'. -/
theorem shared_any (a a' : Option Addr) (n c n' c' : Nat) (ss ss' : List ByteArray) (w : World) (hl : ss.length = n) (hn : n ≤ 65537) (hc : n ≤ c) (hr : Row w a ss) (hl' : ss'.length = n') (hn' : n' ≤ 65537) (hr' : Row w a' ss') :
    Calls Trym.prog 22 #[.slice a n c, .slice a' n' c'] w fun e w' => e = .returned (.int .i64 (sh ss ss')) ∧ ∃ m, w' = w.drewN m := by
  have HR : Hid (Row w a ss) := hr
  have HL : Hid (ss.length = n) := hl
  have HR' : Hid (Row w a' ss') := hr'
  have HL' : Hid (ss'.length = n') := hl'
  clear hr hl hr' hl'
  go_enter Trym.func22, Trym.ntmps22
  go_wp2
  go_loopw [5, 6] (fun v i wr => ∃ k : Nat, k ≤ n ∧ i = .int .i64 k ∧ v = .int .i64 (shTo ss ss' k : Nat) ∧ ∃ m, wr = w.drewN m) (fun _ i _ => n - (intOf i).toNat)
  case atStart => exact ⟨0, Nat.zero_le _, rfl, rfl, 0, rfl⟩
  case round =>
    obtain ⟨k, hk, rfl, rfl, hwr⟩ := hrel
    have HW : Hid (∃ m, wr = w.drewN m) := hwr
    have HRr : Hid (Row wr a ss) := by obtain ⟨m, rfl⟩ := hwr; exact HR.out.drewN m
    have HRr' : Hid (Row wr a' ss') := by obtain ⟨m, rfl⟩ := hwr; exact HR'.out.drewN m
    clear hwr
    by_cases hlt : k < n
    · have hlt' : k < ss.length := by rw [HL.out]; exact hlt
      obtain ⟨b, off, rfl, hcell⟩ := HRr.out k hlt'
      have hk1 : (k : Int) < (n : Int) := by omega
      have hk2 : (k : Int) ≤ (c : Int) := by omega
      have hdl := shTo_le ss ss' k
      have HS : Hid (shTo ss ss' (k + 1) = shTo ss ss' k + if mem (ss.take k) (ss.getD k ByteArray.empty) then 0 else if mem ss' (ss.getD k ByteArray.empty) then 1 else 0) := rfl
      have HT : Hid ((ss.take k).length = k) := by show _ = _; rw [List.length_take]; omega
      generalize ss.getD k ByteArray.empty = x at hcell HS
      generalize hq : shTo ss ss' k = q at hdl HS
      cases hm : mem (ss.take k) x
      · cases hm' : mem ss' x
        all_goals
          have HM := hm
          have HM' := hm'
          have HH : Hid (mem (ss.take k) x = _ ∧ mem ss' x = _) := ⟨HM, HM'⟩
          clear hm hm' HM HM'
          go_wp2
          go_quiet (first
            | (go_at_call_of 19 k; exact Calls.quiet_of_same (contains_is _ _ _ (ss.take k) _ _ _ HT.out (by omega) ((HRr.out.take k).drewN _) HH.out.1))
            | (go_at_call 19; exact Calls.quiet_of_same (contains_is _ _ _ ss' _ _ _ HL'.out (by omega) (HRr'.out.drewN _) HH.out.2)))
          go_wp2
          go_roundw
          case rel => exact ⟨k + 1, by omega, by go_num, by rw [HS.out, HH.out.1, HH.out.2]; go_num, drewN_more HW.out _⟩
          case measure => simp [intOf]; omega
      · have HM : Hid (mem (ss.take k) x = true) := hm
        clear hm
        go_wp2
        go_quiet ((go_at_call 19; exact Calls.quiet_of_same (contains_is _ _ _ (ss.take k) _ _ _ HT.out (by omega) ((HRr.out.take k).drewN _) HM.out)))
        go_wp2
        go_roundw
        case rel => exact ⟨k + 1, by omega, by go_num, by rw [HS.out, HM.out]; go_num, drewN_more HW.out _⟩
        case measure => simp [intOf]; omega
    · obtain rfl : k = n := by omega
      go_wp2
      go_ret
      exact ⟨ret_int (by rw [sh, HL.out]), HW.out⟩
end Go.Proofs.Qxb6614915aMods
