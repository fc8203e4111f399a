/-
  The guide's frame for a law (howto/template/XProofs.lean; Derived/Test/ChunkProofs.lean for 'Below') at this statement: a slice of floats, an int, a float, two ints.
-/
import Derived.Test.Qxb6614601aModsRows
import Derived.Test.Qxb6614601aModsSharesEdge
import Derived.WalkKit
import Derived.ProofKit
import Derived.OpenShut
import Derived.ShutString
import Derived.ChangeOld
import Derived.Below
import Derived.Deep.Slices
import Derived.Laws.Cover2
namespace Go.Proofs.Qxb6614601aMods.fnPointAtSharesCoords
open Go.ChangeShapes Go.WideShapes Go.ChangeAt Go.RowKit Go.Deep
set_option linter.unusedVariables false

theorem own : ownKnob Trym.prog.godebug = none := by kernel_rfl
theorem laidOut : laidOutB Trym.prog = true := by kernel_rfl
theorem cells44 : Trym.prog.cellsOf 44 = 1 := by kernel_rfl

/-- WHAT THE WALK IS TOLD OF A SLICE OF FLOATS THAT CAME IN: it is nil; or its 'len' elements' cells hold the bits 'bs'. -/
def IsRow (w : World) (a : Option Addr) (len : Nat) (bs : Nat → Nat) : Prop :=
  len ≤ maxLen ∧ ((a = none ∧ len = 0) ∨ ∃ x, a = some x ∧ ∀ i, i < len → w.cell? (x.add i) = some (.float .f64 (bs i)))

theorem walk (a0 : Option Addr) (len0 cap0 : Nat) (bs : Nat → Nat) (a1 : Int) (a2 : Nat) (a3 a4 : Int) (w : World) (w0 : IsRow w a0 len0 bs) :
    Calls Trym.prog 7 #[.slice a0 len0 cap0, .int .i64 a1, .float .f64 a2, .int .i64 a3, .int .i64 a4] w fun e w' => e = .returned (.bool true) ∧ Below w.heap.size w w' := by
  obtain ⟨hm, w0⟩ := w0
  by_cases h : len0 ≤ 65536 ∧ 1 ≤ a3 ∧ a3 ≤ 4 ∧ 1 ≤ a4 ∧ a4 ≤ 4 ∧ 0 ≤ a1 ∧ a1 < len0
  · obtain ⟨h0, h1, h2, h3, h4, h5, h6⟩ := h
    rcases w0 with ⟨rfl, rfl⟩ | ⟨x, rfl, hcell⟩
    · omega
    · obtain ⟨i, rfl⟩ : ∃ i : Nat, a1 = i := ⟨a1.toNat, by omega⟩
      exact shares_in x len0 cap0 bs i a2 a3 a4 w h0 hcell (by omega) h1 h2 h3 h4
  · exact shares_out a0 len0 cap0 a1 a2 a3 a4 w hm h

/-- The cell of a float that was read. -/
theorem float_cell {H : Type} {enc : TypeId × Value → H} {P : Program} {w : World} {base : Nat} {spare : Nat → Bool} {held : Bool} {t : TypeId} {k : FloatKind} {n : Nat} {v : Value} {x : DataW H × List MemPlace}
    (ht : P.underlying t = some (.float k)) (h : DataW.trod enc P w base spare held n t [v] = some x) : ∃ b, v = .float k b := by
  cases n with
  | zero => simp [DataW.trod] at h
  | succ n =>
    cases v with
    | float k' b =>
      simp only [DataW.trod, ht] at h
      split at h
      · rename_i hk; exact ⟨b, by rw [hk.1]⟩
      · cases h
    | _ => simp [DataW.trod, ht] at h

set_option maxRecDepth 100000 in
theorem lifted (os : Os) (started : os.Started) (H : Type) (enc : TypeId × Value → H) :
    ReturnsInHanded {} Trym.checked os 7 .any (Rows.fnPointAtSharesCoordsSpec.pre6 enc Trym.prog Trym.f7 Rows.fnPointAtSharesCoordsRow.domain false) (Rows.fnPointAtSharesCoordsSpec.post enc Trym.prog Trym.f7 false true false false) := by
  refine returnsInHanded_of_change (C := Trym.checked) own started (by kernel_rfl) Trym.func7
    (ChangeSpec.witness6 (enc := enc) (C := Trym.checked) false ⟨#[], #[.slice none 0 0, .int .i64 0, .float .f64 0, .int .i64 0, .int .i64 0], []⟩ 8 (by kernel_rfl) (by kernel_rfl) (by kernel_rfl) (by kernel_rfl)) ?_
  intro W base args ds gs before hval0 hW hcnd _
  have hval : ∀ (j : Nat) t v, Trym.f7.params[j]? = some t → args[j]? = some v → Value.okWide Trym.prog W .any base t v := hval0
  have hW' := hW
  obtain ⟨p, q, hA0, hV, rfl, hfz, hnd⟩ := hW
  have hA : DataW.TrodAll enc Trym.prog W 0 (fun _ => true) true Trym.f7.params.toList args.toList ds p := hA0
  rw [Trym.params7] at hA hval
  obtain ⟨v0, vs0, d0, ds0, p0, q0, hargs, rfl, rfl, h0, r0⟩ := trodAll_cons hA
  obtain ⟨v1, vs1, d1, ds1, p1, q1, rfl, rfl, rfl, h1, r1⟩ := trodAll_cons r0
  obtain ⟨v2, vs2, d2, ds2, p2, q2, rfl, rfl, rfl, h2, r2⟩ := trodAll_cons r1
  obtain ⟨v3, vs3, d3, ds3, p3, q3, rfl, rfl, rfl, h3, r3⟩ := trodAll_cons r2
  obtain ⟨v4, vs4, d4, ds4, p4, q4, rfl, rfl, rfl, h4, r4⟩ := trodAll_cons r3
  obtain ⟨rfl, rfl, rfl⟩ := trodAll_nil r4
  obtain rfl : args = #[v0, v1, v2, v3, v4] := by cases args; simp_all
  obtain ⟨rfl, rfl⟩ := trodVars_none hV
  obtain ⟨a0, len0, cap0, rfl⟩ := okWide_slice Trym.underlying35 (hval 0 35 v0 rfl rfl)
  have k0 := h0
  have lt0 : ∀ x ∈ p0, x.block < W.heap.size := by obtain ⟨m, hm⟩ := k0; exact DataW.trod_lt m _ _ _ hm
  obtain ⟨bs, w0⟩ : ∃ bs, IsRow W a0 len0 bs := by
    obtain ⟨fuel, hf⟩ := h0
    rcases open_slice1 Trym.underlying35 cells44 hf with ⟨hcs, _⟩ | ⟨x, l, c, m, n, V, D, Pl, hcs, _, hl, hm, hmm, _, hx⟩
    · simp [Value.cells] at hcs
      obtain ⟨rfl, rfl, rfl⟩ := hcs
      exact ⟨fun _ => 0, Nat.zero_le _, .inl ⟨rfl, rfl⟩⟩
    · simp [Value.cells] at hcs
      obtain ⟨rfl, rfl, rfl⟩ := hcs
      have hle : len0 ≤ m := by rw [hmm]; split <;> omega
      obtain ⟨bs, hbs⟩ := choose_lt (α := Nat) (n := len0) (p := fun i b => V i = .float .f64 b) (fun i hi => float_cell Trym.underlying44 (hx i (by omega)).2)
      exact ⟨bs, Nat.le_trans hl hm, .inr ⟨_, rfl, fun i hi => by rw [(hx i (by omega)).1, hbs i hi]⟩⟩
  obtain ⟨a1, rfl, rfl, rfl, w1⟩ := open_int Trym.underlying3 (hval 1 3 v1 rfl rfl) h1
  obtain ⟨a2, rfl, rfl, rfl, w2⟩ := open_float Trym.underlying44 (hval 2 44 v2 rfl rfl) h2
  obtain ⟨a3, rfl, rfl, rfl, w3⟩ := open_int Trym.underlying3 (hval 3 3 v3 rfl rfl) h3
  obtain ⟨a4, rfl, rfl, rfl, w4⟩ := open_int Trym.underlying3 (hval 4 3 v4 rfl rfl) h4
  clear hA0 hval0
  refine (walk a0 len0 cap0 bs a1 a2 a3 a4 W w0).mono fun e W' ⟨he, bel⟩ => ?_
  subst he
  exact ⟨_, rfl, _, _, _, [], _, [], hW', trodAll_mk1 (shut_bool Trym.underlying4 _), (trodAll_cons_mk (Below.trod laidOut (by kernel_rfl) (of_decide_eq_true (by kernel_rfl)) k0 bel lt0) (trodAll_cons_mk (shut_int Trym.underlying3 w1) (trodAll_cons_mk (shut_float Trym.underlying44 w2) (trodAll_cons_mk (shut_int Trym.underlying3 w3) (trodAll_cons_mk (shut_int Trym.underlying3 w4) trodAll_mk0))))), rfl, bel.frame _, fun h => by cases h⟩

theorem over : Rows.fnPointAtSharesCoordsRow.holds Trym.pinned (OpenSpec.ofChange Rows.fnPointAtSharesCoordsSpec) :=
  OpenClaim.holds_of_wide 7 Trym.f7 rfl rfl rfl rfl rfl rfl rfl ⟨rfl, rfl, rfl, rfl, rfl⟩ rfl rfl rfl rfl rfl (by kernel_rfl) Trym.func7 (by kernel_rfl)
    (of_decide_eq_true (by kernel_rfl)) (by unfold Func.isWrapper; first | (rw [if_pos (by decide +kernel)]; kernel_rfl) | (rw [if_neg (by decide +kernel)]; exact ⟨rfl, rfl⟩))
    (fun os started H enc _ => lifted os started H enc)

/-- ████ THE STATEMENT ████ -/
theorem proved : Rows.FnPointAtSharesCoordsSaid := over
#print axioms proved
end Go.Proofs.Qxb6614601aMods.fnPointAtSharesCoords
