/-
  newStringSet: the states by their lengths (stringset.go:59 to 65): in memory, and its plain words.
-/
import Derived.Test.Qxb6000411aStart
namespace Go.Proofs.Qxb6000411a
open Go.RowKit Go.Maps Pl

def lnAt (tx : List (List UInt8)) (i : Nat) : Nat := (tx[i]?.getD []).length
def lev (tx : List (List UInt8)) (j n : Nat) : List Nat := (List.range j).filter fun i => lnAt tx i == n
theorem lev_succ (tx : List (List UInt8)) (j n : Nat) : lev tx (j + 1) n = lev tx j n ++ (if lnAt tx j = n then [j] else []) := by
  unfold lev
  rw [List.range_succ, List.filter_append]
  congr 1
  by_cases h : lnAt tx j = n <;> simp [h]
theorem lev_zero (tx : List (List UInt8)) (n : Nat) : lev tx 0 n = [] := rfl
theorem lev_len (tx : List (List UInt8)) (j n : Nat) : (lev tx j n).length ≤ j := by
  have := List.length_filter_le (fun i => lnAt tx i == n) (List.range j)
  simpa [lev] using this
theorem lev_none {tx : List (List UInt8)} {j n : Nat} (h : ∀ i, i < j → lnAt tx i < n) : lev tx j n = [] := by
  unfold lev
  rw [List.filter_eq_nil_iff]
  intro i hi
  have := h i (by simpa using hi)
  simp
  omega
theorem mem_lev {tx : List (List UInt8)} {j n i : Nat} : i ∈ lev tx j n ↔ i < j ∧ lnAt tx i = n := by simp [lev]

def lvV (l : List Nat) (g c : Nat) : Value := if l = [] then nilS else .slice (some ⟨g, 0, none⟩) l.length c
def ints (l : List Nat) : List Value := l.map fun (i : Nat) => .int .i32 (i : Int)

/-- The slice of levels, after j states: M levels in a row at block ob, level n's own row at block G n. -/
structure LV (B : Nat) (w : World) (tx : List (List UInt8)) (j M ob ocap : Nat) (G C : Nat → Nat) : Prop where
  out : Row w 46 ob ocap ((List.range M).map fun n => lvV (lev tx j n) (G n) (C n))
  inn : ∀ n, n < M → lev tx j n ≠ [] → Row w 21 (G n) (C n) (ints (lev tx j n)) ∧ B ≤ G n
  inj : ∀ n m, n < M → m < M → lev tx j n ≠ [] → lev tx j m ≠ [] → n ≠ m → G n ≠ G m
  all : ∀ i, i < j → lnAt tx i < M
  lo : B ≤ ob

theorem LV.start {B : Nat} {w : World} {tx : List (List UInt8)} {ob ocap : Nat} (h : Row w 46 ob ocap []) (hB : B ≤ ob) : LV B w tx 0 0 ob ocap (fun _ => 0) (fun _ => 0) :=
  ⟨h, fun _ h => absurd h (by omega), fun _ _ h => absurd h (by omega), fun _ h => absurd h (by omega), hB⟩

section
variable {B : Nat} {w w' : World} {tx : List (List UInt8)} {j M ob ocap ob' ocap' : Nat} {G C : Nat → Nat} {o : Obj}
/-- A nil level more. -/
theorem LV.nilMore (h : LV B w tx j M ob ocap G C) (hrow : Row w' 46 ob' ocap' (((List.range M).map fun n => lvV (lev tx j n) (G n) (C n)) ++ [nilS])) (hg : (w.alloc o).grownBy w' (some ob)) (hloc : ob' = ob ∨ ob' = w.heap.size + 1) (hB : B ≤ w.heap.size) :
    LV B w' tx j (M + 1) ob' ocap' G C := by
  have hM : lev tx j M = [] := lev_none h.all
  have hlt : ∀ n, n < M + 1 → lev tx j n ≠ [] → n < M := by
    intro n hn hne
    rcases Nat.lt_or_ge n M with h | h
    · exact h
    · have : n = M := by omega
      exact absurd (this ▸ hM) hne
  refine ⟨?_, ?_, fun n m hn hm h1 h2 => h.inj n m (hlt n hn h1) (hlt m hm h2) h1 h2, fun i hi => Nat.lt_succ_of_lt (h.all i hi), ?_⟩
  · rw [List.range_succ, List.map_append]
    simp only [List.map_cons, List.map_nil, hM, lvV, if_true] at hrow ⊢
    exact hrow
  · intro n hn hne
    obtain ⟨hr, hl⟩ := h.inn n (hlt n hn hne) hne
    exact ⟨hr.go hg (hr.ne_type h.out (by decide)), hl⟩
  · have := h.lo
    omega
/-- One state more in its level. -/
theorem LV.more (h : LV B w tx j M ob ocap G C) (hn : lnAt tx j < M) {g c : Nat} (hrow : Row w' 21 g c (ints (lev tx j (lnAt tx j)) ++ [.int .i32 (j : Int)])) {r : Option Nat} (hg : (w.alloc o).grownBy w' r)
    (hr : (lev tx j (lnAt tx j) = [] ∧ r = none ∧ g = w.heap.size + 1) ∨ (lev tx j (lnAt tx j) ≠ [] ∧ r = some (G (lnAt tx j)) ∧ (g = G (lnAt tx j) ∨ g = w.heap.size + 1))) (hB : B ≤ w.heap.size) :
    LV B (w'.setCell ⟨ob, lnAt tx j, none⟩ (.slice (some ⟨g, 0, none⟩) ((lev tx j (lnAt tx j)).length + 1) c)) tx (j + 1) M ob ocap (fun n => if n = lnAt tx j then g else G n) (fun n => if n = lnAt tx j then c else C n) := by
  generalize hL : lnAt tx j = L at *
  have hnew : lev tx (j + 1) L = lev tx j L ++ [j] := by rw [lev_succ, if_pos hL]
  have hold : ∀ n, n ≠ L → lev tx (j + 1) n = lev tx j n := by
    intro n hne
    rw [lev_succ, if_neg (fun e => hne (by rw [← hL, e]))]
    simp
  have hoLt := h.out.lt
  have hor : some ob ≠ r := by
    rcases hr with ⟨_, rfl, _⟩ | ⟨hne, rfl, _⟩
    · simp
    · have := (h.inn L hn hne).1.ne_type h.out (by decide)
      simpa using this.symm
  have hout' : Row w' 46 ob ocap ((List.range M).map fun n => lvV (lev tx j n) (G n) (C n)) := (h.out.alloc o).kept hg hor
  have hgo : g ≠ ob := hrow.ne_type hout' (by decide)
  have hginn : ∀ n, n < M → n ≠ L → lev tx j n ≠ [] → g ≠ G n ∧ Row w' 21 (G n) (C n) (ints (lev tx j n)) := by
    intro n hnM hne hln
    obtain ⟨hrn, _⟩ := h.inn n hnM hln
    have hlt := hrn.lt
    rcases hr with ⟨_, rfl, hg1⟩ | ⟨hL2, rfl, hg1⟩
    · exact ⟨by omega, (hrn.alloc o).kept hg (by simp)⟩
    · have hinj := h.inj n L hnM hn hln hL2 hne
      exact ⟨by omega, (hrn.alloc o).kept hg (by simpa using hinj)⟩
  have hgB : B ≤ g := by
    rcases hr with ⟨_, _, hg1⟩ | ⟨hL2, _, hg1⟩
    · omega
    · have := (h.inn L hn hL2).2
      omega
  have hgs := grown_setCell w' ⟨ob, L, none⟩ (.slice (some ⟨g, 0, none⟩) ((lev tx j L).length + 1) c)
  refine ⟨?_, ?_, ?_, ?_, h.lo⟩
  · have hs := hout'.set L (.slice (some ⟨g, 0, none⟩) ((lev tx j L).length + 1) c)
    have he : ((List.range M).map fun n => lvV (lev tx (j + 1) n) (if n = L then g else G n) (if n = L then c else C n)) = ((List.range M).map fun n => lvV (lev tx j n) (G n) (C n)).set L (.slice (some ⟨g, 0, none⟩) ((lev tx j L).length + 1) c) := by
      apply List.ext_getElem?
      intro n
      rw [List.getElem?_set, List.getElem?_map, List.getElem?_map]
      by_cases he : L = n
      · subst he
        rw [if_pos rfl, if_pos (by simpa using hn), List.getElem?_range hn]
        simp [lvV, hnew]
      · rw [if_neg he]
        by_cases hnM : n < M
        · rw [List.getElem?_range hnM]
          have : n ≠ L := fun e => he e.symm
          simp [hold n this, this]
        · rw [List.getElem?_eq_none (by simpa using hnM)]
          rfl
    rw [he]
    exact hs
  · intro n hnM hne
    by_cases he : n = L
    · subst he
      simp only [if_true]
      rw [hnew]
      refine ⟨?_, hgB⟩
      have : Row w' 21 g c (ints (lev tx j n ++ [j])) := by simpa [ints] using hrow
      exact this.kept hgs (by simpa using hgo)
    · simp only [he, if_false]
      rw [hold n he] at hne ⊢
      obtain ⟨_, h2⟩ := hginn n hnM he hne
      refine ⟨h2.kept hgs ?_, (h.inn n hnM hne).2⟩
      have := h2.ne_type hout' (by decide)
      simpa using this
  · intro n m hnM hmM h1 h2 hne
    by_cases hn' : n = L
    · subst hn'
      have hm' : m ≠ n := fun e => hne e.symm
      simp only [if_true, hm', if_false]
      rw [hold m hm'] at h2
      exact (hginn m hmM hm' h2).1
    · by_cases hm' : m = L
      · subst hm'
        simp only [if_true, hn', if_false]
        rw [hold n hn'] at h1
        exact (hginn n hnM hn' h1).1.symm
      · simp only [hn', hm', if_false]
        rw [hold n hn'] at h1
        rw [hold m hm'] at h2
        exact h.inj n m hnM hmM h1 h2 hne
  · intro i hi
    rcases Nat.lt_or_ge i j with h1 | h1
    · exact h.all i h1
    · have : i = j := by omega
      rw [this, hL]
      exact hn
end
end Go.Proofs.Qxb6000411a
