import Derived.Test.Qxb6614915aModsBytes
namespace Go.Proofs.Qxb6614915aMods
open Go.RowKit
set_option linter.unusedVariables false

set_option maxHeartbeats 1000000 in
/-- 'zzBytes_..' of the first law: it answers yes or no and turns nothing. -/
theorem zz1_any (r pr p q : ByteArray) (a a' : Option Addr) (n c n' c' : Nat) (ss ss' : List ByteArray) (w : World) (hl : ss.length = n) (hn : n ≤ maxLen) (hr : Row w a ss) (hl' : ss'.length = n') (hn' : n' ≤ maxLen) (hr' : Row w a' ss') :
    Calls Trym.prog 15 #[.string r, .slice a n c, .string pr, .slice a' n' c', .string p, .string q] w fun e w' => SomeBool e ∧ w = w' := by
  unfold maxLen at hn hn'
  have HR : Hid (Row w a ss) := hr
  have HL : Hid (ss.length = n) := hl
  have HR' : Hid (Row w a' ss') := hr'
  have HL' : Hid (ss'.length = n') := hl'
  clear hr hl hr' hl'
  go_enter Trym.func15, Trym.ntmps15
  go_wp2
  · go_ret; exact ⟨some_bool _, rfl⟩
  · go_ret; exact ⟨some_bool _, rfl⟩
  · go_ret; exact ⟨some_bool _, rfl⟩
  go_loop [13, 14] (fun v i => ∃ k : Nat, k ≤ n ∧ i = .int .i64 k ∧ ∃ T : Int, v = .int .i64 T) (fun _ i => n - (intOf i).toNat)
  case atStart => exact ⟨0, Nat.zero_le _, rfl, _, rfl⟩
  case round =>
    obtain ⟨k, hk, rfl, T, rfl⟩ := hrel
    by_cases hlt : k < n
    · obtain ⟨b, off, rfl, hcell⟩ := HR.out k (by rw [HL.out]; exact hlt)
      have hk1 : (k : Int) < (n : Int) := by omega
      generalize ss.getD k ByteArray.empty = z at hcell
      go_wp2
      · go_ret; exact ⟨some_bool _, rfl⟩
      · go_ret; exact ⟨some_bool _, rfl⟩
      · go_round
        case rel => exact ⟨k + 1, by omega, by go_num, _, rfl⟩
        case measure => simp [intOf]; omega
    · go_wp2
      · go_ret; exact ⟨some_bool _, rfl⟩
      · go_ret; exact ⟨some_bool _, rfl⟩
      · go_ret; exact ⟨some_bool _, rfl⟩
      · go_ret; exact ⟨some_bool _, rfl⟩
      go_loop [13, 15] (fun v i => ∃ k : Nat, k ≤ n' ∧ i = .int .i64 k ∧ ∃ T : Int, v = .int .i64 T) (fun _ i => n' - (intOf i).toNat)
      case atStart => exact ⟨0, Nat.zero_le _, rfl, _, rfl⟩
      case round =>
        obtain ⟨k', hk', rfl, T', rfl⟩ := hrel
        by_cases hlt' : k' < n'
        · obtain ⟨b', off', rfl, hcell'⟩ := HR'.out k' (by rw [HL'.out]; exact hlt')
          have hk1' : (k' : Int) < (n' : Int) := by omega
          generalize ss'.getD k' ByteArray.empty = z' at hcell'
          go_wp2
          · go_ret; exact ⟨some_bool _, rfl⟩
          · go_ret; exact ⟨some_bool _, rfl⟩
          · go_round
            case rel => exact ⟨k' + 1, by omega, by go_num, _, rfl⟩
            case measure => simp [intOf]; omega
        · go_wp2
          all_goals
            go_ret
            exact ⟨some_bool _, rfl⟩
end Go.Proofs.Qxb6614915aMods
