/-
  FnStringSetIndexStableUnderAppend: the given statement.
-/
import Derived.Test.Qxb6000411aLaw7t
import Derived.ProofKit
import Derived.OpenShut
import Derived.ShutString
import Derived.ChangeOld
import Derived.SliceStrings
import Derived.Test.Qxb6000411aJoined
namespace Go.Proofs.Qxb6000411a
open Go.ChangeShapes Go.WideShapes Go.ChangeAt Go.RowKit
open Go.ChangeMaps (open_string shut_string)
set_option linter.unusedVariables false

theorem own : ownKnob Try.prog.godebug = none := by kernel_rfl
theorem laidOut : laidOutB Try.prog = true := by kernel_rfl
theorem cells9 : Try.prog.cellsOf 9 = 1 := by kernel_rfl

theorem sv_of_open {H : Type} {enc : TypeId × Value → H} {W : World} {spare : Nat → Bool} {held : Bool} {fuel : Nat} {a0 : Option Addr} {len cap : Nat} {x : DataW H × List MemPlace}
    (h : DataW.trod enc Try.prog W 0 spare held fuel 22 [.slice a0 len cap] = some x) : ∃ ss, SV W a0 ss.length cap ss ∧ len = ss.length := by
  rcases open_strings Try.underlying22 Try.underlying9 cells9 h with ⟨hcs, _⟩ | ⟨a, l, c, ss, hcs, _, hl, hm, hz, _, hcell, hsz⟩
  · simp at hcs
    obtain ⟨rfl, rfl, rfl⟩ := hcs
    exact ⟨[], ⟨rfl, Nat.le_refl _, by decide, fun _ => ⟨rfl, rfl⟩, .inl rfl, fun s hs => by simp at hs⟩, rfl⟩
  · simp at hcs
    obtain ⟨rfl, rfl, rfl⟩ := hcs
    have hlen : len ≤ ss.length := by rw [hz]; split <;> omega
    have htk : (ss.take len).length = len := by rw [List.length_take]; omega
    refine ⟨ss.take len, ⟨rfl, by rw [htk]; exact hl, hm, (fun h => by cases h), ?_, fun s hs => hsz s (List.mem_of_mem_take hs)⟩, htk.symm⟩
    by_cases h0 : ss.take len = []
    · exact .inl h0
    · right
      have hpos : 0 < len := by
        rcases Nat.eq_zero_or_pos len with h | h
        · exact absurd (by rw [h]; rfl) h0
        · exact h
      have hc0 := hcell 0 (by omega)
      obtain ⟨b, off, spot⟩ := a
      have hspot : spot = none := by
        cases spot with
        | none => rfl
        | some q =>
          simp only [Addr.add, if_true, World.cell?, Option.isSome_some] at hc0
          split at hc0 <;> simp at hc0
      subst hspot
      refine ⟨b, off, rfl, ?_, ?_⟩
      · rw [Addr.add_lit] at hc0
        exact World.block_lt_of_cell? _ _ hc0
      · intro i hi
        have hil : i < len := by rw [htk] at hi; exact hi
        have hci := hcell i (by omega)
        rw [Addr.add_lit] at hci
        rw [hci]
        simp [List.getElem_take, show i < ss.length by omega]

set_option maxRecDepth 100000 in
theorem lifted7 (os : Os) (started : os.Started) (H : Type) (enc : TypeId × Value → H) :
    ReturnsInHanded {} Try.checked os 7 .any (Rows.fnStringSetIndexStableUnderAppendSpec.pre6 enc Try.prog Try.f7 Rows.fnStringSetIndexStableUnderAppendRow.domain false) (Rows.fnStringSetIndexStableUnderAppendSpec.post enc Try.prog Try.f7 false true false false) := by
  refine returnsInHanded_of_change (C := Try.checked) own started (by kernel_rfl) Try.func7
    (ChangeSpec.witness6 (enc := enc) (C := Try.checked) false ⟨#[], #[.slice none 0 0, .slice none 0 0, .string ByteArray.empty], []⟩ 8 (by kernel_rfl) (by kernel_rfl) (by kernel_rfl) (by kernel_rfl)) ?_
  intro W base args ds gs before hval0 hW hcnd _
  have hval : ∀ (j : Nat) t v, Try.f7.params[j]? = some t → args[j]? = some v → Value.okWide Try.prog W .any base t v := hval0
  have hW' := hW
  obtain ⟨p, q, hA0, hV, rfl, hfz, hnd⟩ := hW
  have hA : DataW.TrodAll enc Try.prog W 0 (fun _ => true) true Try.f7.params.toList args.toList ds p := hA0
  rw [Try.params7] at hA hval
  obtain ⟨v0, vs0, d0, ds0, p0, q0, hargs, rfl, rfl, h0, r0⟩ := trodAll_cons hA
  obtain ⟨v1, vs1, d1, ds1, p1, q1, rfl, rfl, rfl, h1, r1⟩ := trodAll_cons r0
  obtain ⟨v2, vs2, d2, ds2, p2, q2, rfl, rfl, rfl, h2, r2⟩ := trodAll_cons r1
  obtain ⟨rfl, rfl, rfl⟩ := trodAll_nil r2
  obtain rfl : args = #[v0, v1, v2] := by cases args; simp_all
  obtain ⟨rfl, rfl⟩ := trodVars_none hV
  obtain ⟨a0, len0, cap0, rfl⟩ := okWide_slice Try.underlying22 (hval 0 22 v0 rfl rfl)
  have k0 := h0
  have lt0 : ∀ x ∈ p0, x.block < W.heap.size := by obtain ⟨m, hm⟩ := k0; exact DataW.trod_lt m _ _ _ hm
  obtain ⟨ss0, w0, rfl⟩ : ∃ ss, SV W a0 ss.length cap0 ss ∧ len0 = ss.length := by
    obtain ⟨fuel, hf⟩ := h0
    exact sv_of_open (by simpa [Value.cells] using hf)
  obtain ⟨a1, len1, cap1, rfl⟩ := okWide_slice Try.underlying22 (hval 1 22 v1 rfl rfl)
  have k1 := h1
  have lt1 : ∀ x ∈ p1, x.block < W.heap.size := by obtain ⟨m, hm⟩ := k1; exact DataW.trod_lt m _ _ _ hm
  obtain ⟨ss1, w1, rfl⟩ : ∃ ss, SV W a1 ss.length cap1 ss ∧ len1 = ss.length := by
    obtain ⟨fuel, hf⟩ := h1
    exact sv_of_open (by simpa [Value.cells] using hf)
  obtain ⟨s2, rfl, rfl, rfl, hs2⟩ := open_string Try.underlying9 (hval 2 9 v2 rfl rfl) h2
  clear hA0 hval0
  refine (law7 W a0 a1 cap0 cap1 ss0 ss1 s2 w0 w1 hs2).mono fun e W' ⟨he, bel⟩ => ?_
  subst he
  exact ⟨_, rfl, _, _, _, [], _, [], hW', trodAll_mk1 (shut_bool Try.underlying4 _), (trodAll_cons_mk (Below.trod laidOut (by kernel_rfl) (of_decide_eq_true (by kernel_rfl)) k0 bel lt0) (trodAll_cons_mk (Below.trod laidOut (by kernel_rfl) (of_decide_eq_true (by kernel_rfl)) k1 bel lt1) (trodAll_cons_mk (shut_string Try.underlying9 hs2) trodAll_mk0))), rfl, bel.frame _, fun h => by cases h⟩

theorem rest7 : joinedRest Try.prog 7 Try.f7 Rows.fnStringSetIndexStableUnderAppendSpec Rows.fnStringSetIndexStableUnderAppendRow = true := by kernel_rfl
theorem named7 : Try.prog.funcNamed Rows.fnStringSetIndexStableUnderAppendRow.func = some 7 := by kernel_rfl
theorem inst7 : Try.f7.isInstance Try.prog Rows.fnStringSetIndexStableUnderAppendRow.origin Rows.fnStringSetIndexStableUnderAppendRow.targs := of_decide_eq_true (by kernel_rfl)
theorem wrap7 : Try.f7.isWrapper Try.prog Rows.fnStringSetIndexStableUnderAppendRow.wrapper Rows.fnStringSetIndexStableUnderAppendRow.mainSum := by
  unfold Func.isWrapper
  first | (rw [if_pos (by decide +kernel)]; kernel_rfl) | (rw [if_neg (by decide +kernel)]; exact ⟨rfl, rfl⟩)
theorem over7 : Rows.fnStringSetIndexStableUnderAppendRow.holds Try.pinned (OpenSpec.ofChange Rows.fnStringSetIndexStableUnderAppendSpec) :=
  OpenClaim.holds_of_wide 7 Try.f7 rfl rfl rfl rfl rfl rfl rfl ⟨rfl, rfl, rfl, rfl, rfl⟩ rfl rfl rfl rfl rfl named7 Try.func7 (joined0 rest7 rfl rfl) inst7 wrap7
    (fun os started H enc _ => lifted7 os started H enc)

/-- THE STATEMENT -/
theorem fnStringSetIndexStableUnderAppend_proved : Rows.FnStringSetIndexStableUnderAppendSaid := over7
#print axioms fnStringSetIndexStableUnderAppend_proved
end Go.Proofs.Qxb6000411a
