/-
  The plain law of the carry's three loops: what each keeps of the digits.
-/
import Derived.Test.Qxb6600637aCarry1
namespace Go.Proofs.Qxb6600637a
set_option linter.unusedVariables false

theorem gset (L : List Int) (i j : Nat) (v : Int) (h : i < L.length) : (L.set i v).getD j 0 = if j = i then v else L.getD j 0 := by
  simp only [List.getD_eq_getElem?_getD, List.getElem?_set]
  by_cases e : i = j
  · subst e; simp [h]
  · rw [if_neg e, if_neg (fun k => e k.symm)]
theorem gtake (L : List Int) (n j : Nat) (h : j < n) : (L.take n).getD j 0 = L.getD j 0 := by
  simp only [List.getD_eq_getElem?_getD, List.getElem?_take, if_pos h]
theorem gapp (L : List Int) (c : Int) (j n : Nat) (h : L.length = n) : (L ++ [c]).getD j 0 = if j = n then c else L.getD j 0 := by
  subst h
  simp only [List.getD_eq_getElem?_getD, List.getElem?_append]
  by_cases e : j < L.length
  · rw [if_pos e, if_neg (by omega)]
  · rw [if_neg e]
    by_cases e2 : j = L.length
    · subst e2; simp
    · rw [if_neg e2, List.getElem?_eq_none (by simp; omega), List.getElem?_eq_none (by omega)]

/-- What the first loop keeps, about to read digit 'z'. -/
def Q1 (l L : List Int) (z : Int) : Prop :=
  L.length = l.length ∧ vl L = vl l ∧ (∀ j : Nat, j + 1 < l.length → (j : Int) < z → 0 ≤ L.getD j 0 ∧ L.getD j 0 < 4294967296) ∧
    (∀ j : Nat, z < (j : Int) → L.getD j 0 = l.getD j 0) ∧ (∀ j : Nat, -4611686020574871552 ≤ L.getD j 0 ∧ L.getD j 0 ≤ 4611686020574871552)

/-- What the second loop keeps. -/
def Mid (l L : List Int) : Prop :=
  vl L = vl l ∧ 0 < L.length ∧ (∀ j : Nat, j + 1 < L.length → 0 ≤ L.getD j 0 ∧ L.getD j 0 < 4294967296) ∧
    ((L.length = l.length ∧ -4611686020574871552 ≤ L.getD (L.length - 1) 0 ∧ L.getD (L.length - 1) 0 ≤ 4611686020574871552) ∨
     (L.length = l.length + 1 ∧ -2147483648 ≤ L.getD (L.length - 1) 0 ∧ L.getD (L.length - 1) 0 < 2147483648))

/-- What the third loop keeps, 'p' the last digit. -/
def T3 (l L : List Int) (p : Nat) : Prop :=
  p < L.length ∧ vl (L.take (p + 1)) = vl l ∧ (∀ j : Nat, j < p → 0 ≤ L.getD j 0 ∧ L.getD j 0 < 4294967296) ∧ -2147483648 ≤ L.getD p 0 ∧ L.getD p 0 < 2147483648

theorem prem_all {l : List Int} {f t : Int} (h : Prem l f t) (j : Nat) : -4611686018427387904 ≤ l.getD j 0 ∧ l.getD j 0 ≤ 4611686018427387904 := by
  by_cases hj : j < l.length
  · exact ⟨(h j hj).1, (h j hj).2.1⟩
  · have : l.getD j 0 = 0 := by simp [List.getD_eq_getElem?_getD, List.getElem?_eq_none (Nat.le_of_not_lt hj)]
    rw [this]; decide

theorem Q1.start {l : List Int} {f t : Int} (h : Prem l f t) : Q1 l l f := by
  refine ⟨rfl, rfl, fun j h1 h2 => (h j (by omega)).2.2 h1 (.inl h2), fun _ _ => rfl, fun j => ?_⟩
  have := prem_all h j
  omega

theorem Q1.step {l L : List Int} {f t : Int} {k : Nat} (h : Prem l f t) (q : Q1 l L k) (hk : k + 1 < l.length) :
    Q1 l ((L.set k (L.getD k 0 - L.getD k 0 / 4294967296 * 4294967296)).set (k + 1) (L.getD (k + 1) 0 + L.getD k 0 / 4294967296)) ((k : Int) + 1) := by
  obtain ⟨q1, q2, q3, q4, q5⟩ := q
  have hx := q5 k
  have hy := q4 (k + 1) (by omega)
  have hy2 := prem_all h (k + 1)
  refine ⟨by simp [q1], by rw [vl_move L k _ (by omega)]; exact q2, ?_, ?_, ?_⟩
  · intro j h1 h2
    rw [gset _ _ _ _ (by simp; omega), gset _ _ _ _ (by omega), if_neg (by omega)]
    by_cases e : j = k
    · rw [if_pos e]; omega
    · rw [if_neg e]; exact q3 j h1 (by omega)
  · intro j h1
    rw [gset _ _ _ _ (by simp; omega), gset _ _ _ _ (by omega), if_neg (by omega), if_neg (by omega)]
    exact q4 j (by omega)
  · intro j
    rw [gset _ _ _ _ (by simp; omega), gset _ _ _ _ (by omega)]
    by_cases e : j = k + 1
    · rw [if_pos e, hy]; omega
    · rw [if_neg e]
      by_cases e : j = k
      · rw [if_pos e]; omega
      · rw [if_neg e]; exact q5 j

theorem Q1.out {l L : List Int} {z : Int} (q : Q1 l L z) (hl : 0 < l.length) (hz : (l.length : Int) - 1 ≤ z) : Mid l L := by
  obtain ⟨q1, q2, q3, q4, q5⟩ := q
  exact ⟨q2, by omega, fun j hj => q3 j (by omega) (by omega), .inl ⟨q1, q5 _⟩⟩

theorem Q1.brk {l L : List Int} {f t : Int} {k : Nat} (h : Prem l f t) (q : Q1 l L k) (hk : k + 1 < l.length) (hc : L.getD k 0 / 4294967296 = 0) (ht : t ≤ (k : Int)) : Mid l L := by
  obtain ⟨q1, q2, q3, q4, q5⟩ := q
  refine ⟨q2, by omega, fun j hj => ?_, .inl ⟨q1, q5 _⟩⟩
  rcases Nat.lt_trichotomy j k with e | e | e
  · exact q3 j (by omega) (by omega)
  · subst e; omega
  · rw [q4 j (by omega)]
    exact (h j (by omega)).2.2 (by omega) (.inr (by omega))

theorem Mid.push {l L : List Int} {p : Nat} (m : Mid l L) (hp : L.length = p + 1) (ho : L.getD p 0 < -2147483648 ∨ 2147483648 ≤ L.getD p 0) :
    L.length = l.length ∧ Mid l (L.set p (L.getD p 0 - L.getD p 0 / 4294967296 * 4294967296) ++ [L.getD p 0 / 4294967296]) := by
  obtain ⟨m1, m2, m3, m4⟩ := m
  rw [hp, Nat.add_sub_cancel] at m4
  rcases m4 with ⟨e, b1, b2⟩ | ⟨e, b1, b2⟩
  · have hl : (L.set p (L.getD p 0 - L.getD p 0 / 4294967296 * 4294967296)).length = p + 1 := by simp [hp]
    have hll : (L.set p (L.getD p 0 - L.getD p 0 / 4294967296 * 4294967296) ++ [L.getD p 0 / 4294967296]).length = p + 2 := by simp [hp]
    refine ⟨by omega, by rw [vl_push L p hp]; exact m1, by omega, ?_, .inr ⟨by omega, ?_⟩⟩
    · intro j hj
      rw [gapp _ _ _ _ hl, if_neg (by omega), gset _ _ _ _ (by omega)]
      by_cases e : j = p
      · rw [if_pos e]; omega
      · rw [if_neg e]; exact m3 j (by omega)
    · rw [hll, show p + 2 - 1 = p + 1 from rfl, gapp _ _ _ _ hl, if_pos rfl]
      omega
  · omega

theorem Mid.t3 {l L : List Int} {p : Nat} (m : Mid l L) (hp : L.length = p + 1) (h1 : -2147483648 ≤ L.getD p 0) (h2 : L.getD p 0 < 2147483648) : T3 l L p := by
  obtain ⟨m1, m2, m3, m4⟩ := m
  exact ⟨by omega, by rw [List.take_of_length_le (by omega)]; exact m1, fun j hj => m3 j (by omega), h1, h2⟩

theorem T3.zero {l L : List Int} {p : Nat} (q : T3 l L (p + 1)) (h0 : L.getD (p + 1) 0 = 0) (h1 : L.getD p 0 < 2147483648) : T3 l L p := by
  obtain ⟨q1, q2, q3, q4, q5⟩ := q
  have := q3 p (by omega)
  exact ⟨by omega, by rw [vl_drop0 L (p + 1) q1 h0]; exact q2, fun j hj => q3 j (by omega), by omega, h1⟩

theorem T3.neg {l L : List Int} {p : Nat} (q : T3 l L (p + 1)) (h0 : L.getD (p + 1) 0 = -1) (h1 : 2147483648 ≤ L.getD p 0) : T3 l (L.set p (L.getD p 0 - 4294967296)) p := by
  obtain ⟨q1, q2, q3, q4, q5⟩ := q
  have := q3 p (by omega)
  refine ⟨by simp; omega, by rw [vl_drop1 L p q1 h0]; exact q2, fun j hj => ?_, ?_⟩
  · rw [gset _ _ _ _ (by omega), if_neg (by omega)]; exact q3 j (by omega)
  · rw [gset _ _ _ _ (by omega), if_pos rfl]; omega

theorem T3.stop {l L : List Int} {p : Nat} (q : T3 l L (p + 1)) (h0 : ¬ (L.getD (p + 1) 0 = 0 ∧ L.getD p 0 < 2147483648)) (h1 : ¬ (L.getD (p + 1) 0 = -1 ∧ 2147483648 ≤ L.getD p 0)) :
    Carried (L.take (p + 2)) ∧ vl (L.take (p + 2)) = vl l ∧ (L.take (p + 2)).length = p + 2 := by
  obtain ⟨q1, q2, q3, q4, q5⟩ := q
  have hl : (L.take (p + 2)).length = p + 2 := by simp; omega
  refine ⟨⟨fun i hi => ?_, fun _ => ?_, fun h => by omega, fun _ => ?_⟩, q2, hl⟩
  · rw [gtake _ _ _ (by omega)]; exact q3 i (by omega)
  · rw [hl, gtake _ _ _ (by omega)]; exact ⟨q4, q5⟩
  · rw [hl, gtake _ _ _ (by omega), gtake _ _ _ (by omega)]; exact ⟨h0, h1⟩

theorem T3.end0 {l L : List Int} (q : T3 l L 0) (h0 : L.getD 0 0 = 0) : Carried [] ∧ vl [] = vl l := by
  obtain ⟨q1, q2, q3, q4, q5⟩ := q
  refine ⟨⟨fun i hi => by simp at hi, fun h => absurd rfl h, fun h => by simp at h, fun h => by simp at h⟩, ?_⟩
  rw [← q2, vl_take_succ L 0 q1, h0]
  simp [vl]

theorem T3.end1 {l L : List Int} (q : T3 l L 0) (h0 : L.getD 0 0 ≠ 0) : Carried (L.take 1) ∧ vl (L.take 1) = vl l ∧ (L.take 1).length = 1 := by
  obtain ⟨q1, q2, q3, q4, q5⟩ := q
  have hl : (L.take 1).length = 1 := by simp; omega
  refine ⟨⟨fun i hi => by omega, fun _ => ?_, fun h => ?_, fun h => by omega⟩, q2, hl⟩
  · rw [hl, gtake _ _ _ (by omega)]; exact ⟨q4, q5⟩
  · rw [gtake _ _ _ (by omega)]; exact h0

theorem Carried.bounds {l : List Int} (h : Carried l) (j : Nat) : -2147483648 ≤ l.getD j 0 ∧ l.getD j 0 ≤ 4294967296 := by
  obtain ⟨h1, h2, _⟩ := h
  rcases Nat.lt_trichotomy (j + 1) l.length with e | e | e
  · have := h1 j e; omega
  · have := h2 (by intro h; subst h; simp at e)
    rw [← e, Nat.add_sub_cancel] at this
    omega
  · have : l.getD j 0 = 0 := by simp [List.getD_eq_getElem?_getD, List.getElem?_eq_none (show l.length ≤ j by omega)]
    rw [this]; decide

end Go.Proofs.Qxb6600637a
