import Derived.Test.Qxb6614915aModsStrs
namespace Go.Proofs.Qxb6614915aMods
open Go.RowKit
set_option linter.unusedVariables false

/-- It came back with a number; with yes or no. (Names of their own, so that the walk leaves them standing.) -/
def SomeInt (e : Ending) : Prop := ∃ T : Int, e = .returned (.int .i64 T)
def SomeBool (e : Ending) : Prop := ∃ b : Bool, e = .returned (.bool b)
theorem some_int (T : Int) : SomeInt (.returned (.int .i64 T)) := ⟨T, rfl⟩
theorem some_bool (b : Bool) : SomeBool (.returned (.bool b)) := ⟨b, rfl⟩

/-- 'bytesOfStringsB1': it answers some number and turns nothing. -/
theorem bytesOf_any (a : Option Addr) (n c : Nat) (ss : List ByteArray) (t : Int) (w : World) (hl : ss.length = n) (hn : n ≤ 65537) (hr : Row w a ss) :
    Calls Trym.prog 16 #[.int .i64 t, .slice a n c] w fun e w' => SomeInt e ∧ w = w' := by
  have HR : Hid (Row w a ss) := hr
  have HL : Hid (ss.length = n) := hl
  clear hr hl
  go_enter Trym.func16, Trym.ntmps16
  go_wp2
  go_loop [0, 5] (fun v i => ∃ k : Nat, k ≤ n ∧ i = .int .i64 k ∧ ∃ T : Int, v = .int .i64 T) (fun _ i => n - (intOf i).toNat)
  case atStart => exact ⟨0, Nat.zero_le _, rfl, _, rfl⟩
  case round =>
    obtain ⟨k, hk, rfl, T, rfl⟩ := hrel
    by_cases hlt : k < n
    · obtain ⟨b, off, rfl, hcell⟩ := HR.out k (by rw [HL.out]; exact hlt)
      have hk1 : (k : Int) < (n : Int) := by omega
      generalize ss.getD k ByteArray.empty = x at hcell
      go_wp2
      · go_ret
        exact ⟨some_int _, rfl⟩
      · go_round
        case rel => exact ⟨k + 1, by omega, by go_num, _, rfl⟩
        case measure => simp [intOf]; omega
    · go_wp2
      go_ret
      exact ⟨some_int _, rfl⟩

set_option maxHeartbeats 1000000 in
/-- 'zzBytes_..' of the second law: it answers yes or no and turns nothing. -/
theorem zz2_any (r pr : ByteArray) (a a' : Option Addr) (n c n' c' : Nat) (ss ss' : List ByteArray) (x y : Value) (w : World) (hl : ss.length = n) (hn : n ≤ maxLen) (hr : Row w a ss) (hl' : ss'.length = n') (hn' : n' ≤ maxLen) (hr' : Row w a' ss') :
    Calls Trym.prog 21 #[.string r, .slice a n c, .string pr, .slice a' n' c', x, y] w fun e w' => SomeBool e ∧ w = w' := by
  unfold maxLen at hn hn'
  have HR : Hid (Row w a ss) := hr
  have HL : Hid (ss.length = n) := hl
  have HR' : Hid (Row w a' ss') := hr'
  have HL' : Hid (ss'.length = n') := hl'
  clear hr hl hr' hl'
  go_enter Trym.func21, Trym.ntmps21
  go_wp2
  · go_ret; exact ⟨some_bool _, rfl⟩
  · go_ret; exact ⟨some_bool _, rfl⟩
  · go_ret; exact ⟨some_bool _, rfl⟩
  go_loop [13, 14] (fun v i => ∃ k : Nat, k ≤ n ∧ i = .int .i64 k ∧ ∃ T : Int, v = .int .i64 T) (fun _ i => n - (intOf i).toNat)
  case atStart => exact ⟨0, Nat.zero_le _, rfl, _, rfl⟩
  case round =>
    obtain ⟨k, hk, rfl, T, rfl⟩ := hrel
    by_cases hlt : k < n
    · obtain ⟨b, off, rfl, hcell⟩ := HR.out k (by rw [HL.out]; exact hlt)
      have hk1 : (k : Int) < (n : Int) := by omega
      generalize ss.getD k ByteArray.empty = z at hcell
      go_wp2
      · go_ret; exact ⟨some_bool _, rfl⟩
      · go_ret; exact ⟨some_bool _, rfl⟩
      · go_round
        case rel => exact ⟨k + 1, by omega, by go_num, _, rfl⟩
        case measure => simp [intOf]; omega
    · go_wp2
      · go_ret; exact ⟨some_bool _, rfl⟩
      · go_ret; exact ⟨some_bool _, rfl⟩
      · go_ret; exact ⟨some_bool _, rfl⟩
      · go_ret; exact ⟨some_bool _, rfl⟩
      go_loop [13, 15] (fun v i => ∃ k : Nat, k ≤ n' ∧ i = .int .i64 k ∧ ∃ T : Int, v = .int .i64 T) (fun _ i => n' - (intOf i).toNat)
      case atStart => exact ⟨0, Nat.zero_le _, rfl, _, rfl⟩
      case round =>
        obtain ⟨k', hk', rfl, T', rfl⟩ := hrel
        by_cases hlt' : k' < n'
        · obtain ⟨b', off', rfl, hcell'⟩ := HR'.out k' (by rw [HL'.out]; exact hlt')
          have hk1' : (k' : Int) < (n' : Int) := by omega
          generalize ss'.getD k' ByteArray.empty = z' at hcell'
          go_wp2
          · go_ret; exact ⟨some_bool _, rfl⟩
          · go_ret; exact ⟨some_bool _, rfl⟩
          · go_round
            case rel => exact ⟨k' + 1, by omega, by go_num, _, rfl⟩
            case measure => simp [intOf]; omega
        · go_wp2
          go_ret; exact ⟨some_bool _, rfl⟩
end Go.Proofs.Qxb6614915aMods
