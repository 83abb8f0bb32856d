/-
  FnStringSetIndexIsLeastContained: the given statement.
-/
import Derived.Test.Qxb6000411aOpen
import Derived.Test.Qxb6000411aLaw5
namespace Go.Proofs.Qxb6000411a
open Go.ChangeShapes Go.WideShapes Go.ChangeAt Go.RowKit
open Go.ChangeMaps (open_string shut_string)
set_option linter.unusedVariables false

set_option maxRecDepth 100000 in
theorem lifted5 (os : Os) (started : os.Started) (H : Type) (enc : TypeId × Value → H) :
    ReturnsInHanded {} Try.checked os 5 .any (Rows.fnStringSetIndexIsLeastContainedSpec.pre6 enc Try.prog Try.f5 Rows.fnStringSetIndexIsLeastContainedRow.domain false) (Rows.fnStringSetIndexIsLeastContainedSpec.post enc Try.prog Try.f5 false true false false) := by
  refine returnsInHanded_of_change (C := Try.checked) own started (by kernel_rfl) Try.func5
    (ChangeSpec.witness6 (enc := enc) (C := Try.checked) false ⟨#[], #[.slice none 0 0, .string ByteArray.empty], []⟩ 8 (by kernel_rfl) (by kernel_rfl) (by kernel_rfl) (by kernel_rfl)) ?_
  intro W base args ds gs before hval0 hW hcnd _
  have hval : ∀ (j : Nat) t v, Try.f5.params[j]? = some t → args[j]? = some v → Value.okWide Try.prog W .any base t v := hval0
  have hW' := hW
  obtain ⟨p, q, hA0, hV, rfl, hfz, hnd⟩ := hW
  have hA : DataW.TrodAll enc Try.prog W 0 (fun _ => true) true Try.f5.params.toList args.toList ds p := hA0
  rw [Try.params5] at hA hval
  obtain ⟨v0, vs0, d0, ds0, p0, q0, hargs, rfl, rfl, h0, r0⟩ := trodAll_cons hA
  obtain ⟨v1, vs1, d1, ds1, p1, q1, rfl, rfl, rfl, h1, r1⟩ := trodAll_cons r0
  obtain ⟨rfl, rfl, rfl⟩ := trodAll_nil r1
  obtain rfl : args = #[v0, v1] := by cases args; simp_all
  obtain ⟨rfl, rfl⟩ := trodVars_none hV
  obtain ⟨a0, len0, cap0, rfl⟩ := okWide_slice Try.underlying22 (hval 0 22 v0 rfl rfl)
  have k0 := h0
  have lt0 : ∀ x ∈ p0, x.block < W.heap.size := by obtain ⟨m, hm⟩ := k0; exact DataW.trod_lt m _ _ _ hm
  obtain ⟨ss0, w0, rfl⟩ : ∃ ss, SV W a0 ss.length cap0 ss ∧ len0 = ss.length := by
    obtain ⟨fuel, hf⟩ := h0
    exact sv_of_open (by simpa [Value.cells] using hf)
  obtain ⟨s1, rfl, rfl, rfl, hs1⟩ := open_string Try.underlying9 (hval 1 9 v1 rfl rfl) h1
  clear hA0 hval0
  refine (law5 W a0 cap0 ss0 s1 w0 hs1).mono fun e W' ⟨he, bel⟩ => ?_
  subst he
  exact ⟨_, rfl, _, _, _, [], _, [], hW', trodAll_mk1 (shut_bool Try.underlying4 _), (trodAll_cons_mk (Below.trod laidOut (by kernel_rfl) (of_decide_eq_true (by kernel_rfl)) k0 bel lt0) (trodAll_cons_mk (shut_string Try.underlying9 hs1) trodAll_mk0)), rfl, bel.frame _, fun h => by cases h⟩

theorem rest5 : joinedRest Try.prog 5 Try.f5 Rows.fnStringSetIndexIsLeastContainedSpec Rows.fnStringSetIndexIsLeastContainedRow = true := by kernel_rfl
theorem named5 : Try.prog.funcNamed Rows.fnStringSetIndexIsLeastContainedRow.func = some 5 := by kernel_rfl
theorem inst5 : Try.f5.isInstance Try.prog Rows.fnStringSetIndexIsLeastContainedRow.origin Rows.fnStringSetIndexIsLeastContainedRow.targs := of_decide_eq_true (by kernel_rfl)
theorem wrap5 : Try.f5.isWrapper Try.prog Rows.fnStringSetIndexIsLeastContainedRow.wrapper Rows.fnStringSetIndexIsLeastContainedRow.mainSum := by
  unfold Func.isWrapper
  first | (rw [if_pos (by decide +kernel)]; kernel_rfl) | (rw [if_neg (by decide +kernel)]; exact ⟨rfl, rfl⟩)
theorem over5 : Rows.fnStringSetIndexIsLeastContainedRow.holds Try.pinned (OpenSpec.ofChange Rows.fnStringSetIndexIsLeastContainedSpec) :=
  OpenClaim.holds_of_wide 5 Try.f5 rfl rfl rfl rfl rfl rfl rfl ⟨rfl, rfl, rfl, rfl, rfl⟩ rfl rfl rfl rfl rfl named5 Try.func5 (joined0 rest5 rfl rfl) inst5 wrap5
    (fun os started H enc _ => lifted5 os started H enc)

/-- THE STATEMENT -/
theorem fnStringSetIndexIsLeastContained_proved : Rows.FnStringSetIndexIsLeastContainedSaid := over5
#print axioms fnStringSetIndexIsLeastContained_proved
end Go.Proofs.Qxb6000411a
