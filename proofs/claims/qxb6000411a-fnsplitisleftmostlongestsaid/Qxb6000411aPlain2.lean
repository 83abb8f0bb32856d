/-
  Plain facts, second text: what a text holds anywhere.
-/
import Derived.Test.Qxb6000411aPlain
namespace Go.Proofs.Qxb6000411a.Pl
/-- Does x hold s anywhere? -/
def inf (s : List UInt8) : List UInt8 → Bool
  | [] => s.isPrefixOf []
  | b :: x => inf s x || s.isPrefixOf (b :: x)
theorem inf_drop (s : List UInt8) : ∀ (x : List UInt8) (k : Nat), inf s (x.drop k) = true → inf s x = true
  | [], k, h => by simpa using h
  | b :: x, 0, h => by simpa using h
  | b :: x, k + 1, h => by
    have := inf_drop s x k (by simpa using h)
    simp [inf, this]
theorem inf_iff (s : List UInt8) : ∀ x : List UInt8, inf s x = true ↔ ∃ p, p ≤ x.length ∧ s <+: x.drop p
  | [] => by simp [inf]
  | b :: x => by
    have ih := inf_iff s x
    simp only [inf, Bool.or_eq_true, ih, List.isPrefixOf_iff_prefix]
    constructor
    · rintro (⟨p, h1, h2⟩ | h)
      · exact ⟨p + 1, by simp; omega, by simpa using h2⟩
      · exact ⟨0, by simp, by simpa using h⟩
    · rintro ⟨p, h1, h2⟩
      cases p with
      | zero => exact .inr (by simpa using h2)
      | succ p => exact .inl ⟨p, by simp at h1; omega, by simpa using h2⟩
theorem lb_inf_cons (strs : List (List UInt8)) (b : UInt8) (x : List UInt8) :
    lb (fun s => inf s (b :: x)) strs = lmin (lb (fun s => inf s x) strs) (lb (fun s => s.isPrefixOf (b :: x)) strs) := by
  rw [← lb_or]
  rfl
theorem lb_inf_zero {strs : List (List UInt8)} {x : List UInt8} {k : Nat} (h : lb (fun s => inf s (x.drop k)) strs = 0) : lb (fun s => inf s x) strs = 0 := by
  cases strs with
  | nil => simp [lb_nil] at h
  | cons s l =>
    rw [lb_cons] at h ⊢
    have hg := lb_ge (fun s => inf s (x.drop k)) l
    by_cases hp : inf s (x.drop k) = true
    · rw [if_pos (inf_drop s x k hp)]
    · rw [if_neg hp] at h
      split at h <;> omega
theorem sumLen_append (l : List (List UInt8)) : ∀ r, sumLen (l ++ r) = sumLen l + sumLen r := snoc_ind (by simp [sumLen]) fun r s h => by
  rw [← List.append_assoc, sumLen_snoc, sumLen_snoc, h]
  omega
theorem sumLen_take (l : List (List UInt8)) (i : Nat) : sumLen (l.take i) ≤ sumLen l := by
  have := sumLen_append (l.take i) (l.drop i)
  rw [List.take_append_drop] at this
  omega
end Go.Proofs.Qxb6000411a.Pl
