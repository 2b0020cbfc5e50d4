/-
  'Rows.FnDifferExactlyTheChangedPartiesSaid', PROVED: the frame after the guide's shell for a law over slices.
-/
import Derived.Test.Qxb6606129aRows
import Derived.WalkKit
import Derived.ProofKit
import Derived.OpenShut
import Derived.ShutString
import Derived.ChangeOld
import Derived.Below
import Derived.Test.Qxb6606129aOpenF
import Derived.Test.Qxb6606129aExact
namespace Go.Proofs.Qxb6606129a.fnDifferExactlyTheChangedParties
open Go.ChangeShapes Go.WideShapes Go.ChangeAt Go.RowKit
open Go.ChangeMaps (open_string shut_string)
set_option linter.unusedVariables false

theorem own : ownKnob Try.prog.godebug = none := by kernel_rfl
theorem laidOut : laidOutB Try.prog = true := by kernel_rfl

/-! ### THE ROW's STEP -/
set_option maxRecDepth 100000 in
theorem lifted (os : Os) (started : os.Started) (H : Type) (enc : TypeId × Value → H) :
    ReturnsInHanded {} Try.checked os 3 .any (Rows.fnDifferExactlyTheChangedPartiesSpec.pre6 enc Try.prog Try.f3 Rows.fnDifferExactlyTheChangedPartiesRow.domain false) (Rows.fnDifferExactlyTheChangedPartiesSpec.post enc Try.prog Try.f3 false true false false) := by
  refine returnsInHanded_of_change (C := Try.checked) own started (by kernel_rfl) Try.func3
    (ChangeSpec.witness6 (enc := enc) (C := Try.checked) false ⟨#[], #[.slice none 0 0, .int .i64 0, .slice none 0 0, .int .i64 0], []⟩ 8 (by kernel_rfl) (by kernel_rfl) (by kernel_rfl) (by kernel_rfl)) ?_
  intro W base args ds gs before hval0 hW hcnd _
  have hval : ∀ (j : Nat) t v, Try.f3.params[j]? = some t → args[j]? = some v → Value.okWide Try.prog W .any base t v := hval0
  have hW' := hW
  obtain ⟨p, q, hA0, hV, rfl, hfz, hnd⟩ := hW
  have hA : DataW.TrodAll enc Try.prog W 0 (fun _ => true) true Try.f3.params.toList args.toList ds p := hA0
  rw [Try.params3] at hA hval
  obtain ⟨v0, vs0, d0, ds0, p0, q0, hargs, rfl, rfl, h0, r0⟩ := trodAll_cons hA
  obtain ⟨v1, vs1, d1, ds1, p1, q1, rfl, rfl, rfl, h1, r1⟩ := trodAll_cons r0
  obtain ⟨v2, vs2, d2, ds2, p2, q2, rfl, rfl, rfl, h2, r2⟩ := trodAll_cons r1
  obtain ⟨v3, vs3, d3, ds3, p3, q3, rfl, rfl, rfl, h3, r3⟩ := trodAll_cons r2
  obtain ⟨rfl, rfl, rfl⟩ := trodAll_nil r3
  obtain rfl : args = #[v0, v1, v2, v3] := by cases args; simp_all
  obtain ⟨rfl, rfl⟩ := trodVars_none hV
  obtain ⟨a0, len0, cap0, rfl⟩ := okWide_slice Try.underlying22 (hval 0 22 v0 rfl rfl)
  have k0 := h0
  have lt0 : ∀ x ∈ p0, x.block < W.heap.size := by obtain ⟨m, hm⟩ := k0; exact DataW.trod_lt m _ _ _ hm
  obtain ⟨P0, L0, Z0, wb0, wf0⟩ : ∃ P L Z, Blocks W a0 len0 P L Z ∧ ∀ k, k < len0 → ∀ y, P k = some y → MemPlace.cell y.block y.off ∈ p0 := by
    obtain ⟨fuel, hf⟩ := h0
    exact open_blocks (by simpa [Value.cells] using hf)
  obtain ⟨a1, rfl, rfl, rfl, w1⟩ := open_int Try.underlying3 (hval 1 3 v1 rfl rfl) h1
  obtain ⟨a2, len2, cap2, rfl⟩ := okWide_slice Try.underlying22 (hval 2 22 v2 rfl rfl)
  have k2 := h2
  have lt2 : ∀ x ∈ p2, x.block < W.heap.size := by obtain ⟨m, hm⟩ := k2; exact DataW.trod_lt m _ _ _ hm
  obtain ⟨P2, L2, Z2, wb2, wf2⟩ : ∃ P L Z, Blocks W a2 len2 P L Z ∧ ∀ k, k < len2 → ∀ y, P k = some y → MemPlace.cell y.block y.off ∈ p2 := by
    obtain ⟨fuel, hf⟩ := h2
    exact open_blocks (by simpa [Value.cells] using hf)
  obtain ⟨a3, rfl, rfl, rfl, w3⟩ := open_int Try.underlying3 (hval 3 3 v3 rfl rfl) h3
  clear hA0 hval0
  have f0 : ∀ k, k < len0 → ∀ y, P0 k = some y → W.frozen? y = false := fun k hk y hy => hfz y.block y.off (by have := wf0 k hk y hy; simp [this])
  have f2 : ∀ k, k < len2 → ∀ y, P2 k = some y → W.frozen? y = false := fun k hk y hy => hfz y.block y.off (by have := wf2 k hk y hy; simp [this])
  refine (law_exact a1 a3 len0 cap0 len2 cap2 a0 a2 P0 P2 L0 L2 Z0 Z2 W wb0 wb2 f0 f2).mono fun e W' ⟨he, bel⟩ => ?_
  subst he
  exact ⟨_, rfl, _, _, _, [], _, [], hW', trodAll_mk1 (shut_bool Try.underlying4 _), (trodAll_cons_mk (Below.trod laidOut (by kernel_rfl) (of_decide_eq_true (by kernel_rfl)) k0 bel lt0) (trodAll_cons_mk (shut_int Try.underlying3 w1) (trodAll_cons_mk (Below.trod laidOut (by kernel_rfl) (of_decide_eq_true (by kernel_rfl)) k2 bel lt2) (trodAll_cons_mk (shut_int Try.underlying3 w3) trodAll_mk0)))), rfl, bel.frame _, fun h => by cases h⟩

theorem over : Rows.fnDifferExactlyTheChangedPartiesRow.holds Try.pinned (OpenSpec.ofChange Rows.fnDifferExactlyTheChangedPartiesSpec) :=
  OpenClaim.holds_of_wide 3 Try.f3 rfl rfl rfl rfl rfl rfl rfl ⟨rfl, rfl, rfl, rfl, rfl⟩ rfl rfl rfl rfl rfl (by kernel_rfl) Try.func3 (by kernel_rfl)
    (of_decide_eq_true (by kernel_rfl)) (by unfold Func.isWrapper; first | (rw [if_pos (by decide +kernel)]; kernel_rfl) | (rw [if_neg (by decide +kernel)]; exact ⟨rfl, rfl⟩))
    (fun os started H enc _ => lifted os started H enc)

/-- THE STATEMENT -/
theorem proved : Rows.FnDifferExactlyTheChangedPartiesSaid := over
end Go.Proofs.Qxb6606129a.fnDifferExactlyTheChangedParties
namespace Go.Proofs.Qxb6606129a
theorem fnDifferExactlyTheChangedPartiesProved : Rows.FnDifferExactlyTheChangedPartiesSaid := fnDifferExactlyTheChangedParties.proved
end Go.Proofs.Qxb6606129a
