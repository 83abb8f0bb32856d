/-
  FnSplitIsLeftmostLongest: the given statement.
-/
import Derived.Test.Qxb6000411aOpenSets
import Derived.Test.Qxb6000411aLaw9
namespace Go.Proofs.Qxb6000411a
open Go.ChangeShapes Go.WideShapes Go.ChangeAt Go.RowKit
open Go.ChangeMaps (open_string shut_string)
set_option linter.unusedVariables false

set_option maxRecDepth 100000 in
theorem lifted9 (os : Os) (started : os.Started) (H : Type) (enc : TypeId × Value → H) :
    ReturnsInHanded {} Try.checked os 9 .any (Rows.fnSplitIsLeftmostLongestSpec.pre6 enc Try.prog Try.f9 Rows.fnSplitIsLeftmostLongestRow.domain false) (Rows.fnSplitIsLeftmostLongestSpec.post enc Try.prog Try.f9 false true false false) := by
  refine returnsInHanded_of_change (C := Try.checked) own started (by kernel_rfl) Try.func9
    (ChangeSpec.witness6 (enc := enc) (C := Try.checked) false ⟨#[], #[.slice none 0 0, .string ByteArray.empty], []⟩ 8 (by kernel_rfl) (by kernel_rfl) (by kernel_rfl) (by kernel_rfl)) ?_
  intro W base args ds gs before hval0 hW hcnd _
  have hval : ∀ (j : Nat) t v, Try.f9.params[j]? = some t → args[j]? = some v → Value.okWide Try.prog W .any base t v := hval0
  have hW' := hW
  obtain ⟨p, q, hA0, hV, rfl, hfz, hnd⟩ := hW
  have hA : DataW.TrodAll enc Try.prog W 0 (fun _ => true) true Try.f9.params.toList args.toList ds p := hA0
  rw [Try.params9] at hA hval
  obtain ⟨v0, vs0, d0, ds0, p0, q0, hargs, rfl, rfl, h0, r0⟩ := trodAll_cons hA
  obtain ⟨v1, vs1, d1, ds1, p1, q1, rfl, rfl, rfl, h1, r1⟩ := trodAll_cons r0
  obtain ⟨rfl, rfl, rfl⟩ := trodAll_nil r1
  obtain rfl : args = #[v0, v1] := by cases args; simp_all
  obtain ⟨rfl, rfl⟩ := trodVars_none hV
  obtain ⟨a0, len0, cap0, rfl⟩ := okWide_slice Try.underlying49 (hval 0 49 v0 rfl rfl)
  have k0 := h0
  have lt0 : ∀ x ∈ p0, x.block < W.heap.size := by obtain ⟨m, hm⟩ := k0; exact DataW.trod_lt m _ _ _ hm
  obtain ⟨ss0, w0, rfl⟩ : ∃ xs, SSV W a0 xs ∧ len0 = xs.length := by
    obtain ⟨fuel, hf⟩ := h0
    exact ssv_of_open (by simpa [Value.cells] using hf)
  obtain ⟨s1, rfl, rfl, rfl, hs1⟩ := open_string Try.underlying9 (hval 1 9 v1 rfl rfl) h1
  clear hA0 hval0
  refine (law9 W a0 cap0 ss0 s1 w0 hs1).mono fun e W' ⟨he, bel⟩ => ?_
  subst he
  exact ⟨_, rfl, _, _, _, [], _, [], hW', trodAll_mk1 (shut_bool Try.underlying4 _), (trodAll_cons_mk (Below.trod laidOut (by kernel_rfl) (of_decide_eq_true (by kernel_rfl)) k0 bel lt0) (trodAll_cons_mk (shut_string Try.underlying9 hs1) trodAll_mk0)), rfl, bel.frame _, fun h => by cases h⟩

theorem rest9 : joinedRest Try.prog 9 Try.f9 Rows.fnSplitIsLeftmostLongestSpec Rows.fnSplitIsLeftmostLongestRow = true := by kernel_rfl
theorem named9 : Try.prog.funcNamed Rows.fnSplitIsLeftmostLongestRow.func = some 9 := by kernel_rfl
theorem inst9 : Try.f9.isInstance Try.prog Rows.fnSplitIsLeftmostLongestRow.origin Rows.fnSplitIsLeftmostLongestRow.targs := of_decide_eq_true (by kernel_rfl)
theorem wrap9 : Try.f9.isWrapper Try.prog Rows.fnSplitIsLeftmostLongestRow.wrapper Rows.fnSplitIsLeftmostLongestRow.mainSum := by
  unfold Func.isWrapper
  first | (rw [if_pos (by decide +kernel)]; kernel_rfl) | (rw [if_neg (by decide +kernel)]; exact ⟨rfl, rfl⟩)
theorem over9 : Rows.fnSplitIsLeftmostLongestRow.holds Try.pinned (OpenSpec.ofChange Rows.fnSplitIsLeftmostLongestSpec) :=
  OpenClaim.holds_of_wide 9 Try.f9 rfl rfl rfl rfl rfl rfl rfl ⟨rfl, rfl, rfl, rfl, rfl⟩ rfl rfl rfl rfl rfl named9 Try.func9 (joined0 rest9 rfl rfl) inst9 wrap9
    (fun os started H enc _ => lifted9 os started H enc)

/-- THE STATEMENT -/
theorem fnSplitIsLeftmostLongest_proved : Rows.FnSplitIsLeftmostLongestSaid := over9
#print axioms fnSplitIsLeftmostLongest_proved
end Go.Proofs.Qxb6000411a
