import Derived.Test.Qxb6616569aModsPicks
import Derived.Lib.Strings
namespace Go.Proofs.Qxb6616569aMods
open Go.RowKit

theorem picks_every (d p : ByteArray) (sub : Bool) (w : World) :
    Calls Trym.prog 6 #[.bool true, .string d, .bool sub, .string p] w fun e w' => e = .returned (.bool true) ∧ w.alloc (.cells #[.bool true, .string d, .bool sub] 50) = w' := by
  go_enter Trym.func6, Trym.ntmps6
  go_wp2
  go_ret
  exact ⟨rfl, rfl⟩
theorem picks_same (d p : ByteArray) (sub : Bool) (w : World) (h : (p.toList == d.toList) = true) :
    Calls Trym.prog 6 #[.bool false, .string d, .bool sub, .string p] w fun e w' => e = .returned (.bool true) ∧ w.alloc (.cells #[.bool false, .string d, .bool sub] 50) = w' := by
  go_enter Trym.func6, Trym.ntmps6
  go_wp2
  go_ret
  exact ⟨rfl, rfl⟩
theorem picks_alone (d p : ByteArray) (w : World) (h : (p.toList == d.toList) = false) :
    Calls Trym.prog 6 #[.bool false, .string d, .bool false, .string p] w fun e w' => e = .returned (.bool false) ∧ w.alloc (.cells #[.bool false, .string d, .bool false] 50) = w' := by
  go_enter Trym.func6, Trym.ntmps6
  go_wp2
  go_ret
  exact ⟨rfl, rfl⟩
/-- What 'liesBelow' says is handed on. -/
theorem picks_below (d p : ByteArray) (b : Bool) (w : World) (h : (p.toList == d.toList) = false)
    (hb : ∀ w : World, Calls Trym.prog 16 #[.string p, .string d] w fun e w' => e = .returned (.bool b) ∧ w = w') :
    Calls Trym.prog 6 #[.bool false, .string d, .bool true, .string p] w fun e w' => e = .returned (.bool b) ∧ w.alloc (.cells #[.bool false, .string d, .bool true] 50) = w' := by
  have HB := hb
  have H : Hid (∀ w : World, Calls Trym.prog 16 #[.string p, .string d] w fun e w' => e = .returned (.bool b) ∧ w = w') := HB
  clear HB hb
  go_enter Trym.func6, Trym.ntmps6
  go_wp2_with (first | (go_at_call 16; refine (H.out _).mono ?_; rintro e w' ⟨rfl, rfl⟩) | go_in)
  go_ret
  exact ⟨rfl, rfl⟩

/-! ### The plain law -/
theorem same_end (p : ByteArray) : (p.toList == (p.extract 0 p.size).toList) = true := by
  rw [ByteArray.extract_zero_size]; exact beq_self_eq_true _
theorem same_end' (p : ByteArray) : ((p.extract 0 p.size).toList == p.toList) = true := by
  rw [ByteArray.extract_zero_size]; exact beq_self_eq_true _
theorem len_toList (p : ByteArray) : p.toList.length = p.size := by rw [ByteArray.toList_eq]; rfl
theorem cut_len (p : ByteArray) (k : Nat) (h : k ≤ p.size) : (p.extract 0 k).size = k := by rw [ByteArray.size_extract]; omega
theorem differ (p : ByteArray) (k : Nat) (h : k < p.size) : (p.toList == (p.extract 0 k).toList) = false := by
  refine beq_eq_false_iff_ne.2 fun e => ?_
  have := congrArg List.length e
  rw [len_toList, len_toList, cut_len p k (by omega)] at this
  omega
theorem differ' (p : ByteArray) (k : Nat) (h : k < p.size) : ((p.extract 0 k).toList == p.toList) = false := by
  refine beq_eq_false_iff_ne.2 fun e => ?_
  have := congrArg List.length e
  rw [len_toList, len_toList, cut_len p k (by omega)] at this
  omega
theorem empty_iff (p : ByteArray) : p.toList.isEmpty = (p.size == 0) := by
  rw [← len_toList]; cases p.toList <;> simp

/-- A cut and a slash begin the path just where the cut stands before a slash. -/
theorem slash_iff (p : ByteArray) (k : Nat) (h : k < p.size) : ((p.extract 0 ((p.extract 0 k).size + 1)).toList == ((p.extract 0 k) ++ { data := #[47] }).toList) = (((p[k]'h).toNat : Int) == 47) := by
  rw [cut_len p k (by omega)]
  have e1 : (p.extract 0 (k + 1)).toList = p.data.toList.take k ++ [p[k]'h] := by
    rw [ByteArray.toList_eq, Lib.extract_data, List.drop_zero, Nat.sub_zero, List.take_succ_eq_append_getElem (by simpa using h)]; rfl
  have e2 : ((p.extract 0 k) ++ { data := #[47] }).toList = p.data.toList.take k ++ [47] := by
    rw [ByteArray.toList_eq, ByteArray.data_append, Array.toList_append, Lib.extract_data, List.drop_zero, Nat.sub_zero]
  rw [e1, e2, Bool.eq_iff_iff, beq_iff_eq, beq_iff_eq]
  constructor
  · intro e
    have := List.append_cancel_left e
    rw [List.cons.injEq] at this
    rw [this.1]; rfl
  · intro e
    have : p[k]'h = 47 := UInt8.toNat_inj.1 (by have : ((47 : UInt8).toNat) = 47 := rfl; omega)
    rw [this]
end Go.Proofs.Qxb6616569aMods
