/-
  How a slice of strings that came in is opened.
-/
import Derived.Test.Qxb6600637aEq
import Derived.ProofKit
import Derived.OpenShut
import Derived.ShutString
import Derived.ChangeOld
import Derived.SliceStrings
import Derived.Test.Qxb6600637aJoined
namespace Go.Proofs.Qxb6600637a
open Go.ChangeShapes Go.WideShapes Go.ChangeAt Go.RowKit
open Go.ChangeMaps (open_string shut_string)
set_option linter.unusedVariables false

theorem own : ownKnob Try.prog.godebug = none := by kernel_rfl
theorem laidOut : laidOutB Try.prog = true := by kernel_rfl
theorem cells9 : Try.prog.cellsOf 9 = 1 := by kernel_rfl

theorem sc_of_open {H : Type} {enc : TypeId × Value → H} {W : World} {spare : Nat → Bool} {held : Bool} {fuel : Nat} {a0 : Option Addr} {len cap : Nat} {x : DataW H × List MemPlace}
    (h : DataW.trod enc Try.prog W 0 spare held fuel 23 [.slice a0 len cap] = some x) : ∃ ss : List ByteArray, SC W a0 ss ∧ ss.length ≤ maxLen ∧ len = ss.length := by
  rcases open_strings Try.underlying23 Try.underlying9 cells9 h with ⟨hcs, _⟩ | ⟨a, l, c, ss, hcs, _, hl, hm, hz, _, hcell, hsz⟩
  · simp at hcs
    obtain ⟨rfl, rfl, rfl⟩ := hcs
    exact ⟨[], .inl rfl, by decide, rfl⟩
  · simp at hcs
    obtain ⟨rfl, rfl, rfl⟩ := hcs
    have hlen : len ≤ ss.length := by rw [hz]; split <;> omega
    have htk : (ss.take len).length = len := by rw [List.length_take]; omega
    refine ⟨ss.take len, ?_, by rw [htk]; omega, htk.symm⟩
    by_cases h0 : ss.take len = []
    · exact .inl h0
    · right
      have hpos : 0 < len := by
        rcases Nat.eq_zero_or_pos len with h | h
        · exact absurd (by rw [h]; rfl) h0
        · exact h
      have hc0 := hcell 0 (by omega)
      obtain ⟨b, off, spot⟩ := a
      have hspot : spot = none := by
        cases spot with
        | none => rfl
        | some q =>
          simp only [Addr.add, if_true, World.cell?, Option.isSome_some] at hc0
          split at hc0 <;> simp at hc0
      subst hspot
      refine ⟨b, off, rfl, ?_, ?_⟩
      · rw [Addr.add_lit] at hc0
        exact World.block_lt_of_cell? _ _ hc0
      · intro i hi
        have hil : i < len := by rw [htk] at hi; exact hi
        have hci := hcell i (by omega)
        rw [Addr.add_lit] at hci
        rw [hci]
        simp [List.getElem_take, show i < ss.length by omega]

end Go.Proofs.Qxb6600637a
