/-
  Plain mathematics for the two laws on grants: lists of byte arrays, no Go in sight.
-/
import Derived.WalkKit
namespace Go.Proofs.Qxb6614915aMods

/-- Does the list hold the string? -/
def mem (ss : List ByteArray) (s : ByteArray) : Bool := ss.any fun x => x.toList == s.toList
theorem mem_nil (s : ByteArray) : mem [] s = false := rfl
theorem mem_snoc (l : List ByteArray) (y s : ByteArray) : mem (l ++ [y]) s = (mem l s || (y.toList == s.toList)) := by simp [mem]
theorem mem_append (l r : List ByteArray) (s : ByteArray) : mem (l ++ r) s = (mem l s || mem r s) := by simp [mem]
theorem mem_congr (l : List ByteArray) {x y : ByteArray} (h : (x.toList == y.toList) = true) : mem l x = mem l y := by
  unfold mem; rw [beq_iff_eq.1 h]

/-- How many of the first k places hold a string that no earlier place holds. -/
def dcTo (ss : List ByteArray) : Nat → Nat
  | 0 => 0
  | k + 1 => dcTo ss k + if mem (ss.take k) (ss.getD k ByteArray.empty) then 0 else 1
/-- How many different strings the list holds. -/
def dc (ss : List ByteArray) : Nat := dcTo ss ss.length
/-- .. of those that also b holds. -/
def shTo (ss b : List ByteArray) : Nat → Nat
  | 0 => 0
  | k + 1 => shTo ss b k + if mem (ss.take k) (ss.getD k ByteArray.empty) then 0 else if mem b (ss.getD k ByteArray.empty) then 1 else 0
def sh (ss b : List ByteArray) : Nat := shTo ss b ss.length

theorem dcTo_le (ss : List ByteArray) : ∀ k, dcTo ss k ≤ k
  | 0 => Nat.le_refl _
  | k + 1 => by have := dcTo_le ss k; simp only [dcTo]; split <;> omega
theorem shTo_le (ss b : List ByteArray) : ∀ k, shTo ss b k ≤ k
  | 0 => Nat.le_refl _
  | k + 1 => by have := shTo_le ss b k; simp only [shTo]; split <;> (try split) <;> omega
theorem dc_le (ss : List ByteArray) : dc ss ≤ ss.length := dcTo_le ss _
theorem sh_le (ss b : List ByteArray) : sh ss b ≤ ss.length := shTo_le ss b _

theorem getD_left (l r : List ByteArray) (k : Nat) (h : k < l.length) (d : ByteArray) : (l ++ r).getD k d = l.getD k d := by
  simp [List.getD_eq_getElem?_getD, List.getElem?_append_left h]
theorem getD_end (l : List ByteArray) (y d : ByteArray) : (l ++ [y]).getD l.length d = y := by
  simp [List.getD_eq_getElem?_getD]

theorem dcTo_snoc (l : List ByteArray) (y : ByteArray) : ∀ k, k ≤ l.length → dcTo (l ++ [y]) k = dcTo l k
  | 0, _ => rfl
  | k + 1, h => by
    simp only [dcTo]
    rw [dcTo_snoc l y k (by omega), List.take_append_of_le_length (by omega), getD_left l [y] k (by omega)]
theorem shTo_snoc (l b : List ByteArray) (y : ByteArray) : ∀ k, k ≤ l.length → shTo (l ++ [y]) b k = shTo l b k
  | 0, _ => rfl
  | k + 1, h => by
    simp only [shTo]
    rw [shTo_snoc l b y k (by omega), List.take_append_of_le_length (by omega), getD_left l [y] k (by omega)]

theorem dc_nil : dc [] = 0 := rfl
theorem sh_nil (b : List ByteArray) : sh [] b = 0 := rfl
theorem dc_snoc (l : List ByteArray) (y : ByteArray) : dc (l ++ [y]) = dc l + if mem l y then 0 else 1 := by
  unfold dc
  rw [List.length_append, List.length_singleton]
  simp only [dcTo]
  rw [dcTo_snoc l y _ (Nat.le_refl _), List.take_left, getD_end]
theorem sh_snoc (l b : List ByteArray) (y : ByteArray) : sh (l ++ [y]) b = sh l b + if mem l y then 0 else if mem b y then 1 else 0 := by
  unfold sh
  rw [List.length_append, List.length_singleton]
  simp only [shTo]
  rw [shTo_snoc l b y _ (Nat.le_refl _), List.take_left, getD_end]

theorem snoc_ind {P : List ByteArray → Prop} (h0 : P []) (hs : ∀ l x, P l → P (l ++ [x])) (l : List ByteArray) : P l := by
  have h : ∀ r : List ByteArray, P r.reverse := fun r => by
    induction r with
    | nil => exact h0
    | cons x r ih => rw [List.reverse_cons]; exact hs _ _ ih
  have := h l.reverse
  rwa [List.reverse_reverse] at this

theorem sh_empty (l : List ByteArray) : sh l [] = 0 := by
  refine snoc_ind (P := fun l => sh l [] = 0) rfl (fun l x ih => ?_) l
  rw [sh_snoc, ih, mem_nil]; split <;> rfl

/-- One string more in the second list: one more is shared just if the first list holds it and the second did not. -/
theorem sh_snoc_right (l r : List ByteArray) (x : ByteArray) : sh l (r ++ [x]) = sh l r + if mem r x then 0 else if mem l x then 1 else 0 := by
  refine snoc_ind (P := fun l => sh l (r ++ [x]) = sh l r + if mem r x then 0 else if mem l x then 1 else 0) ?_ (fun l y ih => ?_) l
  · rw [sh_nil, sh_nil, mem_nil]; split <;> rfl
  · rw [sh_snoc, sh_snoc, ih, mem_snoc, mem_snoc]
    by_cases e : (y.toList == x.toList) = true
    · have e' : (x.toList == y.toList) = true := by rw [beq_iff_eq] at e ⊢; exact e.symm
      rw [e, e', mem_congr l e, mem_congr r e]
      cases mem l x <;> cases mem r x <;> simp <;> omega
    · have e1 : (y.toList == x.toList) = false := by simpa using e
      have e2 : (x.toList == y.toList) = false := by rw [beq_eq_false_iff_ne] at e1 ⊢; exact fun h => e1 h.symm
      rw [e1, e2]
      cases mem l y <;> cases mem r y <;> cases mem l x <;> cases mem r x <;> simp <;> omega

/-- THE LAW OF THE TWO PARTS. -/
theorem parts (l r : List ByteArray) : dc l + dc r = dc (l ++ r) + sh l r := by
  refine snoc_ind (P := fun r => dc l + dc r = dc (l ++ r) + sh l r) ?_ (fun r x ih => ?_) r
  · rw [List.append_nil, sh_empty, dc_nil]
  · rw [← List.append_assoc, dc_snoc, dc_snoc, sh_snoc_right, mem_append]
    cases mem l x <;> cases mem r x <;> simp <;> omega
end Go.Proofs.Qxb6614915aMods
