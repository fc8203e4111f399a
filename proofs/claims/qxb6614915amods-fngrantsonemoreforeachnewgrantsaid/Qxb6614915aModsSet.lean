import Derived.Test.Qxb6614915aModsPlain
import Derived.Maps.OwnSet
import Derived.Maps.Own
namespace Go.Proofs.Qxb6614915aMods
open Go.Maps

/-- A string as a map's key, as data. -/
def key (s : ByteArray) : Lit := .string s.data.toList
def keys (ss : List ByteArray) : List Lit := ss.map key
theorem keys_ok (ss : List ByteArray) : ∀ x ∈ keys ss, WideAt.IsKeyLit x := by
  intro x hx
  obtain ⟨s, _, rfl⟩ := List.mem_map.1 hx
  trivial
theorem key_same (x s : ByteArray) : (key x).sameKey (key s) = (x.toList == s.toList) := by
  rw [ByteArray.toList_eq, ByteArray.toList_eq]; rfl
theorem any_keys (ss : List ByteArray) (s : ByteArray) : (keys ss).any (fun x => x.sameKey (key s)) = mem ss s := by
  unfold keys mem
  rw [List.any_map]
  congr 1
  funext x
  exact key_same x s

/-- The member's map after k rounds, as a datum. -/
def D (u : DataW Unit) (ss : List ByteArray) (k : Nat) : DataW Unit := setOf u (keys (ss.take k))
theorem D_zero (u : DataW Unit) (ss : List ByteArray) : D u ss 0 = .map [] := rfl
theorem D_step (u : DataW Unit) (ss : List ByteArray) (k : Nat) (h : k < ss.length) : D u ss (k + 1) = (D u ss k).put (key (ss.getD k ByteArray.empty)) u := by
  unfold D
  have e : ss.take (k + 1) = ss.take k ++ [ss.getD k ByteArray.empty] := by
    rw [List.take_succ_eq_append_getElem h, List.getD_eq_getElem?_getD, List.getElem?_eq_getElem h]; rfl
  rw [e, keys, List.map_append, List.map_singleton]
  exact setOf_snoc u (keys (ss.take k)) _
/-- It has as many entries as there are different strings. -/
theorem D_size (u : DataW Unit) (ss : List ByteArray) : ∀ k, k ≤ ss.length → Maps.size (D u ss k) = dcTo ss k
  | 0, _ => rfl
  | k + 1, h => by
    have ht : Tidy (D u ss k) := tidy_setOf u _ (keys_ok _)
    have hh : has (D u ss k) (key (ss.getD k ByteArray.empty)) = mem (ss.take k) (ss.getD k ByteArray.empty) := by
      rw [D, has_setOf u _ _ (keys_ok _), any_keys]
    rw [D_step u ss k (by omega), size_put ht, D_size u ss k (by omega), hh]
    simp only [dcTo]
    split <;> rfl
end Go.Proofs.Qxb6614915aMods
