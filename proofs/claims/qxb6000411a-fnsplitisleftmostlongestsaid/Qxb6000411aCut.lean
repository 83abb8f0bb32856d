/-
  The pieces of split, with no Go in sight.
-/
import Derived.Test.Qxb6000411aContains
namespace Go.Proofs.Qxb6000411a
open Pl
set_option linter.unusedVariables false

theorem lg_append (a b : List (List UInt8)) (u : List UInt8) : lg (a ++ b) u = max (lg a u) (lg b u) := by
  apply Nat.le_antisymm
  · rcases lg_some (a ++ b) u with h | ⟨s, hs, hp, hl⟩
    · omega
    · rw [← hl]
      rcases List.mem_append.1 hs with h | h
      · have := lg_max h hp; omega
      · have := lg_max h hp; omega
  · have h1 : lg a u ≤ lg (a ++ b) u := by
      rcases lg_some a u with h | ⟨s, hs, hp, hl⟩
      · omega
      · rw [← hl]; exact lg_max (List.mem_append_left _ hs) hp
    have h2 : lg b u ≤ lg (a ++ b) u := by
      rcases lg_some b u with h | ⟨s, hs, hp, hl⟩
      · omega
      · rw [← hl]; exact lg_max (List.mem_append_right _ hs) hp
    omega

/-- What is left of the pieces, at an even index (true) or an odd one, from the place 'off' on. -/
def Rest (L : Nat → Nat) (t : ByteArray) : Bool → Nat → List ByteArray → Prop
  | true, _, [] => False
  | true, off, p :: r => ∃ i, off ≤ i ∧ i ≤ t.size ∧ (∀ q, off ≤ q → q < i → L q = 0) ∧ p = t.extract off i ∧ Rest L t false i r
  | false, off, [] => off = t.size
  | false, off, p :: r => off < t.size ∧ 0 < L off ∧ off + L off ≤ t.size ∧ p = t.extract off (off + L off) ∧ Rest L t true (off + L off) r

/-- The length's parity. -/
theorem Rest.odd {L : Nat → Nat} {t : ByteArray} : ∀ {l : List ByteArray} {b : Bool} {off : Nat}, Rest L t b off l → l.length % 2 = if b then 1 else 0
  | [], true, _, h => h.elim
  | [], false, _, _ => rfl
  | p :: r, true, off, h => by
    obtain ⟨i, _, _, _, _, h⟩ := h
    have := h.odd
    simp at this ⊢
    omega
  | p :: r, false, off, h => by
    obtain ⟨_, _, _, _, h⟩ := h
    have := h.odd
    simp at this ⊢
    omega

theorem ex_size (t : ByteArray) (a b : Nat) (hb : b ≤ t.size) : (t.extract a b).size = b - a := by
  rw [ByteArray.size_extract]; omega

/-- A taken piece or a between-piece ends where its length says. -/
theorem Rest.cons {L : Nat → Nat} {t p : ByteArray} {b : Bool} {off : Nat} {r : List ByteArray} (h : Rest L t b off (p :: r)) :
    off + p.size ≤ t.size ∧ p = t.extract off (off + p.size) ∧ Rest L t (!b) (off + p.size) r ∧ (b = false → 0 < p.size ∧ L off = p.size) ∧ (b = true → ∀ q, off ≤ q → q < off + p.size → L q = 0) := by
  cases b with
  | true =>
    obtain ⟨i, h1, h2, h3, rfl, h5⟩ := h
    have hs : off + (t.extract off i).size = i := by rw [ex_size _ _ _ h2]; omega
    rw [hs]
    exact ⟨h2, rfl, h5, (fun h => by cases h), fun _ => h3⟩
  | false =>
    obtain ⟨_, h1, h2, rfl, h5⟩ := h
    have hs : (t.extract off (off + L off)).size = L off := by rw [ex_size _ _ _ h2]; omega
    rw [hs]
    exact ⟨h2, rfl, h5, (fun _ => ⟨h1, rfl⟩), (fun h => by cases h)⟩
theorem Rest.nil {L : Nat → Nat} {t : ByteArray} {b : Bool} {off : Nat} (h : Rest L t b off []) : off = t.size := by
  cases b with
  | true => exact h.elim
  | false => exact h

/-! ### split again -/
/-- The longest string that begins at each place. -/
def Lx (S : List (List UInt8)) (t : ByteArray) (i : Nat) : Nat := lg S ((bsl t).drop i)
theorem Lx_le (S : List (List UInt8)) (t : ByteArray) (i : Nat) : Lx S t i ≤ t.size - i := by
  have := lg_le S ((bsl t).drop i)
  rw [List.length_drop, bsl_len] at this
  exact this
theorem bsl_cut (t : ByteArray) (a b q : Nat) (hab : a ≤ b) : (bsl (t.extract a b)).drop q <+: (bsl t).drop (a + q) := by
  rw [bsl_extract, List.drop_take, List.drop_drop]
  exact List.take_prefix _ _
theorem Lx_cut (S : List (List UInt8)) (t : ByteArray) (a b q : Nat) (hab : a ≤ b) : Lx S (t.extract a b) q ≤ Lx S t (a + q) := by
  unfold Lx
  rcases lg_some S ((bsl (t.extract a b)).drop q) with h | ⟨s, hs, hp, hl⟩
  · omega
  · rw [← hl]
    exact lg_max hs (hp.trans (bsl_cut t a b q hab))
/-- A between-piece split again is itself alone. -/
theorem again_even {S : List (List UInt8)} {p : ByteArray} {l : List ByteArray} (h0 : ∀ q, q < p.size → Lx S p q = 0) (h : Rest (Lx S p) p true 0 l) : l = [p] := by
  cases l with
  | nil => exact h.elim
  | cons x r =>
    obtain ⟨i, h1, h2, h3, rfl, h5⟩ := h
    cases r with
    | nil =>
      obtain rfl : i = p.size := h5
      rw [ByteArray.extract_zero_size]
    | cons y r =>
      obtain ⟨hlt, hp, hle, _⟩ := h5
      have := h0 i hlt
      omega
/-- A taken piece split again. -/
theorem again_odd {S : List (List UInt8)} {p : ByteArray} {l : List ByteArray} (hp : 0 < p.size) (h0 : Lx S p 0 = p.size) (h : Rest (Lx S p) p true 0 l) : l = [ByteArray.empty, p, ByteArray.empty] := by
  have he : ∀ n, p.extract n n = ByteArray.empty := fun n => by
    rw [← ByteArray.size_eq_zero_iff, ByteArray.size_extract]; omega
  cases l with
  | nil => exact h.elim
  | cons x r =>
    obtain ⟨i, h1, h2, h3, rfl, h5⟩ := h
    obtain rfl : i = 0 := by
      rcases Nat.eq_zero_or_pos i with h | h
      · exact h
      · have := h3 0 (Nat.le_refl _) h
        omega
    cases r with
    | nil => have : 0 = p.size := h5; omega
    | cons y r =>
      obtain ⟨_, _, _, rfl, h6⟩ := h5
      rw [h0, Nat.zero_add] at h6 ⊢
      cases r with
      | nil => exact h6.elim
      | cons z r =>
        obtain ⟨i, k1, k2, _, rfl, k5⟩ := h6
        obtain rfl : i = p.size := by omega
        cases r with
        | nil => rw [he, he, ByteArray.extract_zero_size]
        | cons u r => have := k5.1; omega
theorem taken_again {S : List (List UInt8)} {t : ByteArray} {off : Nat} (hle : off + Lx S t off ≤ t.size) (hpos : 0 < Lx S t off) : Lx S (t.extract off (off + Lx S t off)) 0 = Lx S t off := by
  apply Nat.le_antisymm
  · have := Lx_cut S t off (off + Lx S t off) 0 (by omega)
    simpa using this
  · rcases lg_some S ((bsl t).drop off) with h | ⟨s, hs, hp, hl⟩
    · unfold Lx at hpos; omega
    · have hl' : s.length = Lx S t off := hl
      rw [← hl']
      unfold Lx
      rw [List.drop_zero]
      refine lg_max hs ?_
      rw [bsl_extract, Nat.add_sub_cancel_left, ← List.prefix_iff_eq_take.1 hp]
      exact List.prefix_refl _
end Go.Proofs.Qxb6000411a
