/-
  FnCarryNormalFormSameValue: the given statement.
-/
import Derived.Test.Qxb6600637aOpen
import Derived.Test.Qxb6600637aLaw5
namespace Go.Proofs.Qxb6600637a
open Go.ChangeShapes Go.WideShapes Go.ChangeAt Go.RowKit
open Go.ChangeMaps (open_string shut_string)
set_option linter.unusedVariables false

theorem ns_of_open {H : Type} {enc : TypeId × Value → H} {W : World} {spare : Nat → Bool} {held : Bool} {fuel : Nat} {a0 : Option Addr} {len cap : Nat} {x : DataW H × List MemPlace}
    (h : DataW.trod enc Try.prog W 0 spare held fuel 32 [.slice a0 len cap] = some x) : ∃ l : List Int, NS W a0 l ∧ l.length ≤ maxLen ∧ len = l.length := by
  rcases open_ints Try.underlying32 Try.underlying2 (by kernel_rfl) h with ⟨hcs, _⟩ | ⟨a, l, c, zs, hcs, _, hl, hm, hz, _, hcell, hwz⟩
  · simp at hcs
    obtain ⟨rfl, rfl, rfl⟩ := hcs
    exact ⟨[], .inl rfl, by decide, rfl⟩
  · simp at hcs
    obtain ⟨rfl, rfl, rfl⟩ := hcs
    have hlen : len ≤ zs.length := by rw [hz]; split <;> omega
    have htk : (zs.take len).length = len := by rw [List.length_take]; omega
    refine ⟨zs.take len, ?_, by rw [htk]; omega, htk.symm⟩
    by_cases h0 : zs.take len = []
    · exact .inl h0
    · right
      have hpos : 0 < len := by
        rcases Nat.eq_zero_or_pos len with h | h
        · exact absurd (by rw [h]; rfl) h0
        · exact h
      have hc0 := hcell 0 (by omega)
      obtain ⟨b, off, spot⟩ := a
      have hspot : spot = none := by
        cases spot with
        | none => rfl
        | some q =>
          simp only [Addr.add, if_true, World.cell?, Option.isSome_some] at hc0
          split at hc0 <;> simp at hc0
      subst hspot
      refine ⟨b, off, rfl, ?_, ?_⟩
      · rw [Addr.add_lit] at hc0
        exact World.block_lt_of_cell? _ _ hc0
      · intro i hi
        have hil : i < len := by rw [htk] at hi; exact hi
        have hci := hcell i (by omega)
        rw [Addr.add_lit] at hci
        rw [hci, gtake _ _ _ hil]

set_option maxRecDepth 100000 in
theorem lifted5 (os : Os) (started : os.Started) (H : Type) (enc : TypeId × Value → H) :
    ReturnsInHanded {} Try.checked os 5 .any (Rows.fnCarryNormalFormSameValueSpec.pre6 enc Try.prog Try.f5 Rows.fnCarryNormalFormSameValueRow.domain false) (Rows.fnCarryNormalFormSameValueSpec.post enc Try.prog Try.f5 false true false false) := by
  refine returnsInHanded_of_change (C := Try.checked) own started (by kernel_rfl) Try.func5
    (ChangeSpec.witness6 (enc := enc) (C := Try.checked) false ⟨#[], #[.slice none 0 0, .int .i64 0, .int .i64 0], []⟩ 8 (by kernel_rfl) (by kernel_rfl) (by kernel_rfl) (by kernel_rfl)) ?_
  intro W base args ds gs before hval0 hW hcnd _
  have hval : ∀ (j : Nat) t v, Try.f5.params[j]? = some t → args[j]? = some v → Value.okWide Try.prog W .any base t v := hval0
  have hW' := hW
  obtain ⟨p, q, hA0, hV, rfl, hfz, hnd⟩ := hW
  have hA : DataW.TrodAll enc Try.prog W 0 (fun _ => true) true Try.f5.params.toList args.toList ds p := hA0
  rw [Try.params5] at hA hval
  obtain ⟨v0, vs0, d0, ds0, p0, q0, hargs, rfl, rfl, h0, r0⟩ := trodAll_cons hA
  obtain ⟨v1, vs1, d1, ds1, p1, q1, rfl, rfl, rfl, h1, r1⟩ := trodAll_cons r0
  obtain ⟨v2, vs2, d2, ds2, p2, q2, rfl, rfl, rfl, h2, r2⟩ := trodAll_cons r1
  obtain ⟨rfl, rfl, rfl⟩ := trodAll_nil r2
  obtain rfl : args = #[v0, v1, v2] := by cases args; simp_all
  obtain ⟨rfl, rfl⟩ := trodVars_none hV
  obtain ⟨a0, len0, cap0, rfl⟩ := okWide_slice Try.underlying32 (hval 0 32 v0 rfl rfl)
  have k0 := h0
  have lt0 : ∀ x ∈ p0, x.block < W.heap.size := by obtain ⟨m, hm⟩ := k0; exact DataW.trod_lt m _ _ _ hm
  obtain ⟨l0, w0, hl0, rfl⟩ : ∃ l : List Int, NS W a0 l ∧ l.length ≤ maxLen ∧ len0 = l.length := by
    obtain ⟨fuel, hf⟩ := h0
    exact ns_of_open (by simpa [Value.cells] using hf)
  obtain ⟨a1, rfl, rfl, rfl, w1⟩ := open_int Try.underlying3 (hval 1 3 v1 rfl rfl) h1
  obtain ⟨a2, rfl, rfl, rfl, w2⟩ := open_int Try.underlying3 (hval 2 3 v2 rfl rfl) h2
  have hff : a1 ≤ 9223372036854775807 := (bounds_i64 w1).2
  clear hA0 hval0
  refine (law5 W a0 cap0 l0 a1 a2 w0 hl0 hff).mono fun e W' ⟨he, bel⟩ => ?_
  subst he
  exact ⟨_, rfl, _, _, _, [], _, [], hW', trodAll_mk1 (shut_bool Try.underlying4 _), (trodAll_cons_mk (Below.trod laidOut (by kernel_rfl) (of_decide_eq_true (by kernel_rfl)) k0 bel lt0) (trodAll_cons_mk (shut_int Try.underlying3 w1) (trodAll_cons_mk (shut_int Try.underlying3 w2) trodAll_mk0))), rfl, bel.frame _, fun h => by cases h⟩

theorem rest5 : joinedRest Try.prog 5 Try.f5 Rows.fnCarryNormalFormSameValueSpec Rows.fnCarryNormalFormSameValueRow = true := by kernel_rfl
theorem named5 : Try.prog.funcNamed Rows.fnCarryNormalFormSameValueRow.func = some 5 := by kernel_rfl
theorem inst5 : Try.f5.isInstance Try.prog Rows.fnCarryNormalFormSameValueRow.origin Rows.fnCarryNormalFormSameValueRow.targs := of_decide_eq_true (by kernel_rfl)
theorem wrap5 : Try.f5.isWrapper Try.prog Rows.fnCarryNormalFormSameValueRow.wrapper Rows.fnCarryNormalFormSameValueRow.mainSum := by
  unfold Func.isWrapper
  first | (rw [if_pos (by decide +kernel)]; kernel_rfl) | (rw [if_neg (by decide +kernel)]; exact ⟨rfl, rfl⟩)
theorem over5 : Rows.fnCarryNormalFormSameValueRow.holds Try.pinned (OpenSpec.ofChange Rows.fnCarryNormalFormSameValueSpec) :=
  OpenClaim.holds_of_wide 5 Try.f5 rfl rfl rfl rfl rfl rfl rfl ⟨rfl, rfl, rfl, rfl, rfl⟩ rfl rfl rfl rfl rfl named5 Try.func5 (joined0 rest5 rfl rfl) inst5 wrap5
    (fun os started H enc _ => lifted5 os started H enc)

/-- THE STATEMENT -/
theorem fnCarryNormalFormSameValue_proved : Rows.FnCarryNormalFormSameValueSaid := over5
#print axioms fnCarryNormalFormSameValue_proved
end Go.Proofs.Qxb6600637a
