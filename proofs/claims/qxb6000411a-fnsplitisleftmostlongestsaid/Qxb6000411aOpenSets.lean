/-
  How a slice of slices of strings that came in is opened.
-/
import Derived.Test.Qxb6000411aOpen
import Derived.Test.Qxb6000411aLaw8
import Derived.Deep.Slices
namespace Go.Proofs.Qxb6000411a
open Go.ChangeShapes Go.WideShapes Go.ChangeAt Go.RowKit
open Go.ChangeMaps (open_string shut_string)
set_option linter.unusedVariables false

theorem cells22 : Try.prog.cellsOf 22 = 1 := by kernel_rfl

theorem list_of {α : Type} {p : Nat → α → Prop} : ∀ (n : Nat), (∀ i, i < n → ∃ y, p i y) → ∃ l : List α, l.length = n ∧ ∀ i (h : i < l.length), p i l[i]
  | 0, _ => ⟨[], rfl, fun i h => by simp at h⟩
  | n + 1, h => by
    obtain ⟨l, h1, h2⟩ := list_of n fun i hi => h i (by omega)
    obtain ⟨y, hy⟩ := h n (by omega)
    refine ⟨l ++ [y], by simp [h1], fun i hi => ?_⟩
    rcases Nat.lt_or_ge i l.length with hl | hl
    · rw [List.getElem_append_left hl]
      exact h2 i hl
    · have : i = n := by simp at hi; omega
      subst this
      rw [List.getElem_append_right hl]
      simpa [h1] using hy

theorem ssv_of_open {H : Type} {enc : TypeId × Value → H} {W : World} {spare : Nat → Bool} {held : Bool} {fuel : Nat} {a0 : Option Addr} {len cap : Nat} {x : DataW H × List MemPlace}
    (h : DataW.trod enc Try.prog W 0 spare held fuel 49 [.slice a0 len cap] = some x) : ∃ xs, SSV W a0 xs ∧ len = xs.length := by
  rcases Go.Deep.open_slice1 Try.underlying49 cells22 h with ⟨hcs, _⟩ | ⟨a, l, c, m, n, V, D, Pl, hcs, _, hl, hm, hmm, _, hV⟩
  · simp at hcs
    obtain ⟨rfl, rfl, rfl⟩ := hcs
    exact ⟨[], ⟨⟨.inl rfl, fun x hx => by simp at hx, by simp [maxLen]⟩, fun _ => rfl, fun x hx => by simp at hx⟩, rfl⟩
  · simp at hcs
    obtain ⟨rfl, rfl, rfl⟩ := hcs
    have hlm : len ≤ m := by rw [hmm]; split <;> omega
    obtain ⟨xs, hxl, hxs⟩ := list_of (α := In) (p := fun i y => W.cell? (a.add i) = some (inV y) ∧ SV W y.1 y.2.2.length y.2.1 y.2.2) len (fun i hi => by
      obtain ⟨h1, h2⟩ := hV i (by omega)
      have hform : ∃ b l c, V i = .slice b l c := by
        rcases open_strings Try.underlying22 Try.underlying9 cells9 h2 with ⟨hc, _⟩ | ⟨b, l, c, ss, hc, _⟩
        · exact ⟨none, 0, 0, by simpa using hc⟩
        · exact ⟨some b, l, c, by simpa using hc⟩
      obtain ⟨b, l, c, hb⟩ := hform
      rw [hb] at h1 h2
      obtain ⟨ss, hss, rfl⟩ := sv_of_open h2
      exact ⟨(b, c, ss), h1, hss⟩)
    subst hxl
    refine ⟨xs, ⟨⟨?_, ?_, Nat.le_trans hl hm⟩, (fun h => by cases h), ?_⟩, rfl⟩
    · by_cases h0 : xs = []
      · exact .inl h0
      · right
        have hpos : 0 < xs.length := List.length_pos_iff.2 h0
        have hc0 := (hxs 0 hpos).1
        obtain ⟨b, off, spot⟩ := a
        have hspot : spot = none := by
          cases spot with
          | none => rfl
          | some q =>
            simp only [Addr.add, if_true, World.cell?, Option.isSome_some] at hc0
            split at hc0 <;> simp [inV] at hc0
        subst hspot
        refine ⟨b, off, rfl, fun i hi => ?_⟩
        have := (hxs i hi).1
        rw [Addr.add_lit] at this
        exact this
    · intro y hy
      obtain ⟨i, hi, rfl⟩ := List.getElem_of_mem hy
      have := (hxs i hi).2
      exact ⟨this.sc, Nat.le_trans this.lec this.max, this.sz⟩
    · intro y hy hn
      obtain ⟨i, hi, rfl⟩ := List.getElem_of_mem hy
      have := (hxs i hi).2.nil hn
      exact ⟨List.eq_nil_of_length_eq_zero this.1, this.2⟩
end Go.Proofs.Qxb6000411a
