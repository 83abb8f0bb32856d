/-
  THE PLAIN LAW of the carried digits: a row of digits in base 2^32, its value, and what a change at one place does to it.
-/
namespace Go.Proofs.Qxb6600637a
set_option linter.unusedVariables false

/-- The value of a row of digits, the lowest first, in base 2^32. -/
def vl : List Int → Int
  | [] => 0
  | x :: xs => x + 4294967296 * vl xs

theorem vl_append : ∀ (a b : List Int), vl (a ++ b) = vl a + 4294967296 ^ a.length * vl b
  | [], b => by simp [vl]
  | x :: xs, b => by
    have h := vl_append xs b
    simp only [List.cons_append, vl, h, List.length_cons, Int.pow_succ]
    rw [Int.mul_add, Int.add_assoc, Int.mul_comm (4294967296 ^ xs.length) 4294967296, Int.mul_assoc]

theorem vl_one (x : Int) : vl [x] = x := by simp [vl]

/-- A carry at place 'i': the digit gives 'c' times the base to the next. -/
theorem vl_move : ∀ (l : List Int) (i : Nat) (c : Int), i + 1 < l.length →
    vl ((l.set i (l.getD i 0 - c * 4294967296)).set (i + 1) (l.getD (i + 1) 0 + c)) = vl l
  | [], i, c, h => by simp at h
  | [x], 0, c, h => by simp at h
  | x :: y :: xs, 0, c, h => by simp [vl]; omega
  | x :: xs, i + 1, c, h => by
    have h' := vl_move xs i c (by simpa using h)
    simp only [List.getD_cons_succ, List.set_cons_succ, vl, h']

theorem vl_take_succ (l : List Int) (n : Nat) (h : n < l.length) :
    vl (l.take (n + 1)) = vl (l.take n) + 4294967296 ^ n * l.getD n 0 := by
  rw [List.take_succ_eq_append_getElem h, vl_append, vl_one]
  simp [List.getD_eq_getElem?_getD, h, Nat.min_eq_left (Nat.le_of_lt h)]

/-- The last digit goes, being 0. -/
theorem vl_drop0 (l : List Int) (n : Nat) (h : n < l.length) (h0 : l.getD n 0 = 0) : vl (l.take n) = vl (l.take (n + 1)) := by
  rw [vl_take_succ l n h, h0]; omega

/-- The last digit goes, being -1, and the one below takes its weight. -/
theorem vl_drop1 (l : List Int) (n : Nat) (h : n + 1 < l.length) (h0 : l.getD (n + 1) 0 = -1) :
    vl ((l.set n (l.getD n 0 - 4294967296)).take (n + 1)) = vl (l.take (n + 2)) := by
  rw [vl_take_succ l (n + 1) h, vl_take_succ l n (by omega), vl_take_succ _ n (by simp; omega), h0]
  have ht : (l.set n (l.getD n 0 - 4294967296)).take n = l.take n := by
    rw [List.take_set, List.set_eq_of_length_le (by simp; omega)]
  have hg : (l.set n (l.getD n 0 - 4294967296)).getD n 0 = l.getD n 0 - 4294967296 := by
    simp [List.getD_eq_getElem?_getD, show n < l.length by omega]
  rw [ht, hg, Int.pow_succ, Int.mul_sub, Int.mul_neg, Int.mul_one]
  omega

/-- A new last digit takes the surplus of the old one. -/
theorem vl_push (l : List Int) (n : Nat) (h : l.length = n + 1) (c : Int) :
    vl (l.set n (l.getD n 0 - c * 4294967296) ++ [c]) = vl l := by
  have e := vl_move (l ++ [0]) n c (by simp; omega)
  have e2 : vl (l ++ [0]) = vl l := by rw [vl_append, vl_one]; omega
  rw [e2] at e
  rw [← e]
  congr 1
  apply List.ext_getElem?
  intro j
  simp only [List.getD_eq_getElem?_getD, List.getElem?_set, List.getElem?_append, List.length_append, List.length_set, List.length_cons, List.length_nil]
  rcases Nat.lt_trichotomy j (n+1) with hj | hj | hj
  · have : j < l.length := by omega
    by_cases hjn : n = j
    · subst hjn; simp [h]; try omega
    · simp [h, hj, hjn, show ¬ (n + 1 = j) by omega]
  · subst hj; simp [h]
  · rw [if_neg (by omega), if_neg (by omega), if_neg (by omega), if_neg (by omega)]
    obtain ⟨q, hq⟩ : ∃ q, j - l.length = q + 1 := ⟨j - l.length - 1, by omega⟩
    rw [hq]; simp

/-- The value of what is left from place 'i', one digit on. -/
theorem vl_drop (l : List Int) (i : Nat) : vl (l.drop i) = l.getD i 0 + 4294967296 * vl (l.drop (i + 1)) := by
  by_cases h : i < l.length
  · rw [List.drop_eq_getElem_cons h, vl]
    simp [List.getD_eq_getElem?_getD, h]
  · rw [List.drop_eq_nil_of_le (by omega), List.drop_eq_nil_of_le (by omega)]
    simp [vl, List.getD_eq_getElem?_getD, List.getElem?_eq_none (Nat.le_of_not_lt h)]

/-- One round of the test of equal values. -/
theorem same_round (a b : List Int) (i : Nat) (c : Int) (h : c + vl (a.drop i) = vl (b.drop i)) :
    (c + a.getD i 0 - b.getD i 0) % 4294967296 = 0 ∧
    (c + a.getD i 0 - b.getD i 0) / 4294967296 + vl (a.drop (i + 1)) = vl (b.drop (i + 1)) := by
  rw [vl_drop a i, vl_drop b i] at h
  omega

end Go.Proofs.Qxb6600637a
