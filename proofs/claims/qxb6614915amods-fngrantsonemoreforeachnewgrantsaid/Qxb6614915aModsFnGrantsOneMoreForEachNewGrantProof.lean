/-
  The guide's frame for a law (howto/template/XProofs.lean; Derived/Test/ChunkProofs.lean for 'Below') at this statement: four strings and two slices of strings.
-/
import Derived.Test.Qxb6614915aModsRows
import Derived.Test.Qxb6614915aModsMoreNil
import Derived.Test.Qxb6614915aModsMoreSome
import Derived.Test.Qxb6614915aModsMoreBig
import Derived.Test.Qxb6614915aModsOpen
import Derived.WalkKit
import Derived.ProofKit
import Derived.OpenShut
import Derived.ShutString
import Derived.ChangeOld
import Derived.Below
import Derived.SliceStrings
namespace Go.Proofs.Qxb6614915aMods.fnGrantsOneMoreForEachNewGrant
open Go.ChangeShapes Go.WideShapes Go.ChangeAt Go.RowKit
open Go.ChangeMaps (open_string shut_string)
set_option linter.unusedVariables false

theorem own : ownKnob Trym.prog.godebug = none := by kernel_rfl
theorem laidOut : laidOutB Trym.prog = true := by kernel_rfl
theorem walk (r pr p q : ByteArray) (a a' : Option Addr) (n c n' c' : Nat) (ss ss' : List ByteArray) (w : World) (h1 : IsStrs w a n c ss) (h3 : IsStrs w a' n' c' ss') :
    Calls Trym.prog 5 #[.string r, .slice a n c, .string pr, .slice a' n' c', .string p, .string q] w fun e w' => e = .returned (.bool true) ∧ Below w.heap.size w w' := by
  obtain ⟨hl, hn, hz, ha, hr⟩ := h1
  obtain ⟨hl', hn', hz', ha', hr'⟩ := h3
  by_cases hb : n ≤ 65536 ∧ n' ≤ 65536 ∧ r.size ≤ 65536 ∧ pr.size ≤ 65536 ∧ p.size ≤ 65536 ∧ q.size ≤ 65536
  · obtain ⟨p1, p2, p3, p4, p5, p6⟩ := hb
    rcases ha with ⟨rfl, rfl, rfl⟩ | ⟨x, rfl⟩
    · obtain rfl : ss = [] := List.eq_nil_of_length_eq_zero hl
      rcases ha' with ⟨rfl, rfl, rfl⟩ | ⟨x', rfl⟩
      · obtain rfl : ss' = [] := List.eq_nil_of_length_eq_zero hl'
        exact more_nil_nil r pr p q w p3 p4 p5 p6
      · exact more_nil_some r pr p q x' n' c' ss' w p3 p4 p5 p6 hl' p2 hr'
    · rcases ha' with ⟨rfl, rfl, rfl⟩ | ⟨x', rfl⟩
      · obtain rfl : ss' = [] := List.eq_nil_of_length_eq_zero hl'
        exact more_some_nil r pr p q x n c ss w p3 p4 p5 p6 hl p1 hr hz
      · exact more_some_some r pr p q x n c ss x' n' c' ss' w p3 p4 p5 p6 hl p1 hr hz hl' p2 hr'
  · exact more_big r pr p q a a' n c n' c' ss ss' w hl hn hr hl' hn' hr' hb

set_option maxRecDepth 100000 in
theorem lifted (os : Os) (started : os.Started) (H : Type) (enc : TypeId × Value → H) :
    ReturnsInHanded {} Trym.checked os 5 .any (Rows.fnGrantsOneMoreForEachNewGrantSpec.pre6 enc Trym.prog Trym.f5 Rows.fnGrantsOneMoreForEachNewGrantRow.domain false) (Rows.fnGrantsOneMoreForEachNewGrantSpec.post enc Trym.prog Trym.f5 false true false false) := by
  refine returnsInHanded_of_change (C := Trym.checked) own started (by kernel_rfl) Trym.func5
    (ChangeSpec.witness6 (enc := enc) (C := Trym.checked) false ⟨#[], #[.string ByteArray.empty, .slice none 0 0, .string ByteArray.empty, .slice none 0 0, .string ByteArray.empty, .string ByteArray.empty], []⟩ 8 (by kernel_rfl) (by kernel_rfl) (by kernel_rfl) (by kernel_rfl)) ?_
  intro W base args ds gs before hval0 hW hcnd _
  have hval : ∀ (j : Nat) t v, Trym.f5.params[j]? = some t → args[j]? = some v → Value.okWide Trym.prog W .any base t v := hval0
  have hW' := hW
  obtain ⟨p, q, hA0, hV, rfl, hfz, hnd⟩ := hW
  have hA : DataW.TrodAll enc Trym.prog W 0 (fun _ => true) true Trym.f5.params.toList args.toList ds p := hA0
  rw [Trym.params5] at hA hval
  obtain ⟨v0, vs0, d0, ds0, p0, q0, hargs, rfl, rfl, h0, r0⟩ := trodAll_cons hA
  obtain ⟨v1, vs1, d1, ds1, p1, q1, rfl, rfl, rfl, h1, r1⟩ := trodAll_cons r0
  obtain ⟨v2, vs2, d2, ds2, p2, q2, rfl, rfl, rfl, h2, r2⟩ := trodAll_cons r1
  obtain ⟨v3, vs3, d3, ds3, p3, q3, rfl, rfl, rfl, h3, r3⟩ := trodAll_cons r2
  obtain ⟨v4, vs4, d4, ds4, p4, q4, rfl, rfl, rfl, h4, r4⟩ := trodAll_cons r3
  obtain ⟨v5, vs5, d5, ds5, p5, q5, rfl, rfl, rfl, h5, r5⟩ := trodAll_cons r4
  obtain ⟨rfl, rfl, rfl⟩ := trodAll_nil r5
  obtain rfl : args = #[v0, v1, v2, v3, v4, v5] := by cases args; simp_all
  obtain ⟨rfl, rfl⟩ := trodVars_none hV
  obtain ⟨s0, rfl, rfl, rfl, w0⟩ := open_string Trym.underlying9 (hval 0 9 v0 rfl rfl) h0
  obtain ⟨a1, len1, cap1, rfl⟩ := okWide_slice Trym.underlying34 (hval 1 34 v1 rfl rfl)
  have k1 := h1
  have lt1 : ∀ x ∈ p1, x.block < W.heap.size := by obtain ⟨m, hm⟩ := k1; exact DataW.trod_lt m _ _ _ hm
  obtain ⟨z1, w1⟩ : ∃ zs, IsStrs W a1 len1 cap1 zs := by obtain ⟨fuel, hf⟩ := h1; exact strs_of hf
  obtain ⟨s2, rfl, rfl, rfl, w2⟩ := open_string Trym.underlying9 (hval 2 9 v2 rfl rfl) h2
  obtain ⟨a3, len3, cap3, rfl⟩ := okWide_slice Trym.underlying34 (hval 3 34 v3 rfl rfl)
  have k3 := h3
  have lt3 : ∀ x ∈ p3, x.block < W.heap.size := by obtain ⟨m, hm⟩ := k3; exact DataW.trod_lt m _ _ _ hm
  obtain ⟨z3, w3⟩ : ∃ zs, IsStrs W a3 len3 cap3 zs := by obtain ⟨fuel, hf⟩ := h3; exact strs_of hf
  obtain ⟨s4, rfl, rfl, rfl, w4⟩ := open_string Trym.underlying9 (hval 4 9 v4 rfl rfl) h4
  obtain ⟨s5, rfl, rfl, rfl, w5⟩ := open_string Trym.underlying9 (hval 5 9 v5 rfl rfl) h5
  clear hA0 hval0
  refine (walk s0 s2 s4 s5 a1 a3 len1 cap1 len3 cap3 z1 z3 W w1 w3).mono fun e W' ⟨he, bel⟩ => ?_
  subst he
  exact ⟨_, rfl, _, _, _, [], _, [], hW', trodAll_mk1 (shut_bool Trym.underlying4 _), (trodAll_cons_mk (shut_string Trym.underlying9 w0) (trodAll_cons_mk (Below.trod laidOut (by kernel_rfl) (of_decide_eq_true (by kernel_rfl)) k1 bel lt1) (trodAll_cons_mk (shut_string Trym.underlying9 w2) (trodAll_cons_mk (Below.trod laidOut (by kernel_rfl) (of_decide_eq_true (by kernel_rfl)) k3 bel lt3) (trodAll_cons_mk (shut_string Trym.underlying9 w4) (trodAll_cons_mk (shut_string Trym.underlying9 w5) trodAll_mk0)))))), rfl, bel.frame _, fun h => by cases h⟩

theorem over : Rows.fnGrantsOneMoreForEachNewGrantRow.holds Trym.pinned (OpenSpec.ofChange Rows.fnGrantsOneMoreForEachNewGrantSpec) :=
  OpenClaim.holds_of_wide 5 Trym.f5 rfl rfl rfl rfl rfl rfl rfl ⟨rfl, rfl, rfl, rfl, rfl⟩ rfl rfl rfl rfl rfl (by kernel_rfl) Trym.func5 (by kernel_rfl)
    (of_decide_eq_true (by kernel_rfl)) (by unfold Func.isWrapper; first | (rw [if_pos (by decide +kernel)]; kernel_rfl) | (rw [if_neg (by decide +kernel)]; exact ⟨rfl, rfl⟩))
    (fun os started H enc _ => lifted os started H enc)

/-- ████ THE STATEMENT ████ -/
theorem proved : Rows.FnGrantsOneMoreForEachNewGrantSaid := over
#print axioms proved
end Go.Proofs.Qxb6614915aMods.fnGrantsOneMoreForEachNewGrant
