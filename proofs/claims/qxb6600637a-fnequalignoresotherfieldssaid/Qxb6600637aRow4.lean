/-
  FnEqualIgnoresOtherFields: the given statement.
-/
import Derived.Test.Qxb6600637aOpen
import Derived.Test.Qxb6600637aLaw4
import Derived.Laws.Cover2
namespace Go.Proofs.Qxb6600637a
open Go.ChangeShapes Go.WideShapes Go.ChangeAt Go.RowKit
open Go.ChangeMaps (open_string shut_string)
set_option linter.unusedVariables false

set_option maxRecDepth 100000 in
theorem lifted4 (os : Os) (started : os.Started) (H : Type) (enc : TypeId × Value → H) :
    ReturnsInHanded {} Try.checked os 4 .any (Rows.fnEqualIgnoresOtherFieldsSpec.pre6 enc Try.prog Try.f4 Rows.fnEqualIgnoresOtherFieldsRow.domain false) (Rows.fnEqualIgnoresOtherFieldsSpec.post enc Try.prog Try.f4 false true false false) := by
  refine returnsInHanded_of_change (C := Try.checked) own started (by kernel_rfl) Try.func4
    (ChangeSpec.witness6 (enc := enc) (C := Try.checked) false ⟨#[], #[.int .u8 0, .string ByteArray.empty, .float .f64 0, .bool false, .slice none 0 0, .string ByteArray.empty, .float .f64 0, .bool false, .slice none 0 0], []⟩ 8 (by kernel_rfl) (by kernel_rfl) (by kernel_rfl) (by kernel_rfl)) ?_
  intro W base args ds gs before hval0 hW hcnd _
  have hval : ∀ (j : Nat) t v, Try.f4.params[j]? = some t → args[j]? = some v → Value.okWide Try.prog W .any base t v := hval0
  have hW' := hW
  obtain ⟨p, q, hA0, hV, rfl, hfz, hnd⟩ := hW
  have hA : DataW.TrodAll enc Try.prog W 0 (fun _ => true) true Try.f4.params.toList args.toList ds p := hA0
  rw [Try.params4] at hA hval
  obtain ⟨v0, vs0, d0, ds0, p0, q0, hargs, rfl, rfl, h0, r0⟩ := trodAll_cons hA
  obtain ⟨v1, vs1, d1, ds1, p1, q1, rfl, rfl, rfl, h1, r1⟩ := trodAll_cons r0
  obtain ⟨v2, vs2, d2, ds2, p2, q2, rfl, rfl, rfl, h2, r2⟩ := trodAll_cons r1
  obtain ⟨v3, vs3, d3, ds3, p3, q3, rfl, rfl, rfl, h3, r3⟩ := trodAll_cons r2
  obtain ⟨v4, vs4, d4, ds4, p4, q4, rfl, rfl, rfl, h4, r4⟩ := trodAll_cons r3
  obtain ⟨v5, vs5, d5, ds5, p5, q5, rfl, rfl, rfl, h5, r5⟩ := trodAll_cons r4
  obtain ⟨v6, vs6, d6, ds6, p6, q6, rfl, rfl, rfl, h6, r6⟩ := trodAll_cons r5
  obtain ⟨v7, vs7, d7, ds7, p7, q7, rfl, rfl, rfl, h7, r7⟩ := trodAll_cons r6
  obtain ⟨v8, vs8, d8, ds8, p8, q8, rfl, rfl, rfl, h8, r8⟩ := trodAll_cons r7
  obtain ⟨rfl, rfl, rfl⟩ := trodAll_nil r8
  obtain rfl : args = #[v0, v1, v2, v3, v4, v5, v6, v7, v8] := by cases args; simp_all
  obtain ⟨rfl, rfl⟩ := trodVars_none hV
  obtain ⟨n0, rfl, rfl, rfl, w0⟩ := open_int Try.underlying5 (hval 0 5 v0 rfl rfl) h0
  obtain ⟨n1, rfl, rfl, rfl, w1⟩ := open_string Try.underlying9 (hval 1 9 v1 rfl rfl) h1
  obtain ⟨n2, rfl, rfl, rfl, w2⟩ := open_float Try.underlying22 (hval 2 22 v2 rfl rfl) h2
  obtain ⟨n3, rfl, rfl, rfl⟩ := open_bool Try.underlying4 (hval 3 4 v3 rfl rfl) h3
  obtain ⟨a4, len4, cap4, rfl⟩ := okWide_slice Try.underlying23 (hval 4 23 v4 rfl rfl)
  have k4 := h4
  have lt4 : ∀ x ∈ p4, x.block < W.heap.size := by obtain ⟨m, hm⟩ := k4; exact DataW.trod_lt m _ _ _ hm
  obtain ⟨ss4, w4, hl4, rfl⟩ : ∃ ss : List ByteArray, SC W a4 ss ∧ ss.length ≤ maxLen ∧ len4 = ss.length := by
    obtain ⟨fuel, hf⟩ := h4
    exact sc_of_open (by simpa [Value.cells] using hf)
  obtain ⟨n5, rfl, rfl, rfl, w5⟩ := open_string Try.underlying9 (hval 5 9 v5 rfl rfl) h5
  obtain ⟨n6, rfl, rfl, rfl, w6⟩ := open_float Try.underlying22 (hval 6 22 v6 rfl rfl) h6
  obtain ⟨n7, rfl, rfl, rfl⟩ := open_bool Try.underlying4 (hval 7 4 v7 rfl rfl) h7
  obtain ⟨a8, len8, cap8, rfl⟩ := okWide_slice Try.underlying23 (hval 8 23 v8 rfl rfl)
  have k8 := h8
  have lt8 : ∀ x ∈ p8, x.block < W.heap.size := by obtain ⟨m, hm⟩ := k8; exact DataW.trod_lt m _ _ _ hm
  obtain ⟨ss8, w8, hl8, rfl⟩ : ∃ ss : List ByteArray, SC W a8 ss ∧ ss.length ≤ maxLen ∧ len8 = ss.length := by
    obtain ⟨fuel, hf⟩ := h8
    exact sc_of_open (by simpa [Value.cells] using hf)
  clear hA0 hval0
  refine (law4 W n0 n1 n5 n2 n6 n3 n7 a4 a8 cap4 cap8 ss4 ss8 w4 w8 hl4 hl8 w1 w5).mono fun e W' ⟨he, bel⟩ => ?_
  subst he
  exact ⟨_, rfl, _, _, _, [], _, [], hW', trodAll_mk1 (shut_bool Try.underlying4 _), (trodAll_cons_mk (shut_int Try.underlying5 w0) (trodAll_cons_mk (shut_string Try.underlying9 w1) (trodAll_cons_mk (shut_float Try.underlying22 w2) (trodAll_cons_mk (shut_bool Try.underlying4 n3) (trodAll_cons_mk (Below.trod laidOut (by kernel_rfl) (of_decide_eq_true (by kernel_rfl)) k4 bel lt4) (trodAll_cons_mk (shut_string Try.underlying9 w5) (trodAll_cons_mk (shut_float Try.underlying22 w6) (trodAll_cons_mk (shut_bool Try.underlying4 n7) (trodAll_cons_mk (Below.trod laidOut (by kernel_rfl) (of_decide_eq_true (by kernel_rfl)) k8 bel lt8) trodAll_mk0))))))))), rfl, bel.frame _, fun h => by cases h⟩

theorem rest4 : joinedRest Try.prog 4 Try.f4 Rows.fnEqualIgnoresOtherFieldsSpec Rows.fnEqualIgnoresOtherFieldsRow = true := by kernel_rfl
theorem named4 : Try.prog.funcNamed Rows.fnEqualIgnoresOtherFieldsRow.func = some 4 := by kernel_rfl
theorem inst4 : Try.f4.isInstance Try.prog Rows.fnEqualIgnoresOtherFieldsRow.origin Rows.fnEqualIgnoresOtherFieldsRow.targs := of_decide_eq_true (by kernel_rfl)
theorem wrap4 : Try.f4.isWrapper Try.prog Rows.fnEqualIgnoresOtherFieldsRow.wrapper Rows.fnEqualIgnoresOtherFieldsRow.mainSum := by
  unfold Func.isWrapper
  first | (rw [if_pos (by decide +kernel)]; kernel_rfl) | (rw [if_neg (by decide +kernel)]; exact ⟨rfl, rfl⟩)
theorem over4 : Rows.fnEqualIgnoresOtherFieldsRow.holds Try.pinned (OpenSpec.ofChange Rows.fnEqualIgnoresOtherFieldsSpec) :=
  OpenClaim.holds_of_wide 4 Try.f4 rfl rfl rfl rfl rfl rfl rfl ⟨rfl, rfl, rfl, rfl, rfl⟩ rfl rfl rfl rfl rfl named4 Try.func4 (joined0 rest4 rfl rfl) inst4 wrap4
    (fun os started H enc _ => lifted4 os started H enc)

/-- THE STATEMENT -/
theorem fnEqualIgnoresOtherFields_proved : Rows.FnEqualIgnoresOtherFieldsSaid := over4
#print axioms fnEqualIgnoresOtherFields_proved
end Go.Proofs.Qxb6600637a
