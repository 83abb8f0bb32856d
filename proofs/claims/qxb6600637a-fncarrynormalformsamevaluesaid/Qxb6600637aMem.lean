/-
  Memory words for the walks of the carry: a row of cells in a block of its own ('Row'), a row of whole numbers ('IR'), what an append of one element does to it.
-/
import Derived.Test.Qxb6600637aEq
import Derived.Test.Qxb6600637aCarryLaw
import Derived.Maps.OwnSet
import Derived.Maps.AppendAt
namespace Go.Proofs.Qxb6600637a
open Go.RowKit Go.Maps
set_option linter.unusedVariables false

/-! ### rows -/
def Row (w : World) (e : TypeId) (g cap : Nat) (xs : List Value) : Prop :=
  ∃ cur, w.heap[g]? = some (.cells cur e (0, 0)) ∧ xs.length ≤ cap ∧ cap ≤ maxLen ∧ cur.size = cap ∧ cur.toList.take xs.length = xs

section
variable {w w' : World} {e : TypeId} {g cap : Nat} {xs : List Value}
theorem Row.lt (h : Row w e g cap xs) : g < w.heap.size := by
  obtain ⟨cur, h1, _⟩ := h
  exact (Array.getElem?_eq_some_iff.1 h1).1
theorem Row.le (h : Row w e g cap xs) : xs.length ≤ cap ∧ cap ≤ maxLen := by
  obtain ⟨cur, _, h1, h2, _⟩ := h
  exact ⟨h1, h2⟩
theorem Row.same (h : Row w e g cap xs) (hh : w'.heap[g]? = w.heap[g]?) : Row w' e g cap xs := by
  obtain ⟨cur, h1, r⟩ := h
  exact ⟨cur, hh.trans h1, r⟩
theorem Row.kept {r : Option Nat} (h : Row w e g cap xs) (hg : w.grownBy w' r) (hne : some g ≠ r) : Row w' e g cap xs := h.same (hg.block g h.lt hne)
theorem Row.cell (h : Row w e g cap xs) {i : Nat} (hi : i < xs.length) : w.cell? ⟨g, i, none⟩ = some xs[i] := by
  obtain ⟨cur, h1, h2, h3, h4, h5⟩ := h
  have : xs[i]? = cur.toList[i]? := by rw [← h5, List.getElem?_take, if_pos hi]
  rw [List.getElem?_eq_getElem hi] at this
  simp only [World.cell?, h1]
  simpa using this.symm
theorem Row.cellD (h : Row w e g cap xs) {i : Nat} {x : Value} (hi : xs[i]? = some x) : w.cell? ⟨g, i, none⟩ = some x := by
  obtain ⟨hlt, rfl⟩ := List.getElem?_eq_some_iff.1 hi
  exact h.cell hlt
theorem Row.free (h : Row w e g cap xs) (i : Nat) : w.frozen? ⟨g, i, none⟩ = false := by
  obtain ⟨cur, h1, _⟩ := h
  simp [World.frozen?, h1]
theorem Row.set (h : Row w e g cap xs) (i : Nat) (x : Value) : Row (w.setCell ⟨g, i, none⟩ x) e g cap (xs.set i x) := by
  obtain ⟨cur, h1, h2, h3, h4, h5⟩ := h
  refine ⟨cur.setIfInBounds i x, ?_, by simpa using h2, h3, by simpa using h4, ?_⟩
  · simp [World.setCell, Array.getElem?_modify, h1]
  · simp only [List.length_set, Array.toList_setIfInBounds]
    rw [List.take_set, h5]
theorem Row.owns (h : Row w e g cap xs) : w.ownsRow 0 e 1 (.slice (some ⟨g, 0, none⟩) xs.length cap) xs.length xs := by
  obtain ⟨cur, h1, h2, h3, h4, h5⟩ := h
  exact ⟨by simp, .inr ⟨g, cap, cur, rfl, Nat.zero_le _, h1, h2, h3, by simpa using h4, by simpa using h5⟩⟩
theorem Row.alloc (h : Row w e g cap xs) (o : Obj) : Row (w.alloc o) e g cap xs := h.kept (World.grownBy_alloc w o none) (by simp)
theorem Row.drew (h : Row w e g cap xs) : Row w.drew e g cap xs := h
theorem Row.made (w : World) (e : TypeId) (cur : Array Value) (hm : cur.size ≤ maxLen) : Row (w.alloc (.cells cur e)) e w.heap.size cur.size cur.toList :=
  ⟨cur, heap_alloc_new w _, by simp, hm, rfl, List.take_of_length_le (by simp)⟩
theorem Row.made0 (w : World) (e : TypeId) (cur : Array Value) (hm : cur.size ≤ maxLen) : Row (w.alloc (.cells cur e)) e w.heap.size cur.size [] :=
  ⟨cur, heap_alloc_new w _, by simp, hm, rfl, by simp⟩
end

theorem grown_setCell (w : World) (a : Addr) (v : Value) : w.grownBy (w.setCell a v) (some a.block) :=
  ⟨rfl, rfl, rfl, by simp, fun k _ hne => Below.heap_setCell w a v k (fun e => hne (by rw [e]))⟩
theorem grown_drew (w : World) (r : Option Nat) : w.grownBy w.drew r := ⟨rfl, rfl, rfl, Nat.le_refl _, fun _ _ _ => rfl⟩

/-- 'append(s, x)', s a row of the call's own, x in a block of its own. -/
theorem wpList_app {P : Program} (w : World) {ops : Array Oper} {rest : List Oper} {o : Oper} {a : Act} {Q : Exit → Act → World → Prop} (hgd : o.guard = none) (s x : Operand) (t : TypeId)
    (ho : o.op = .call { callee := .builtin .append, args := #[s, x], argTypes := #[t, t] })
    (e : TypeId) (z : Value) (bytes : Nat) (ht : P.underlying t = some (.slice e)) (hi : (P.info? e).map (fun i => (i.zero, i.size, i.bytes)) = some (some z, 1, bytes)) (hz : z.cells.size = 1)
    (g cap : Nat) (xs : List Value) (hs : a.eval s = .slice (some ⟨g, 0, none⟩) xs.length cap) (hrow : Row w e g cap xs)
    (ad c : Nat) (y : Value) (hx : a.eval x = .slice (some ⟨ad, 0, none⟩) 1 c) (hy : w.cell? ⟨ad, 0, none⟩ = some y) (h1 : y.oneCell' = true)
    (hbytes : (xs.length + 1) * bytes ≤ 140737488355328) (h63 : xs.length + 1 ≤ maxLen)
    (h : ∀ g' cap' w', Row w' e g' cap' (xs ++ [y]) → w.grownBy w' (some g) → (g' = g ∨ g' = w.heap.size) → wpList P ops Q rest (a.put o.dst (.slice (some ⟨g', 0, none⟩) (xs.length + 1) cap')) w') :
    wpList P ops Q (o :: rest) a w := by
  obtain ⟨i, hi1, hi2, hi3, hi4⟩ := info_parts hi
  refine wpList_append_own_at w hgd s x t ho 0 e i z 1 bytes ht hi1 hi2 hi3 hi4 hz (by decide) _ _ _ hs hrow.owns ⟨ad, 0, none⟩ 1 c [y] hx rfl ?_ ?_ h63 hbytes (Nat.zero_le _) ?_
  · intro j u hj
    match j, hj with
    | 0, hj => simp at hj; subst hj; simpa [Addr.add] using hy
  · intro u hu; simp at hu; subst hu; exact h1
  · intro v' w' hown hgr hnil hloc
    obtain ⟨hlen, hown⟩ := hown
    rcases hown with ⟨rfl, h0⟩ | ⟨g', cap', cur, rfl, _, hc1, hc2, hc3, hc4, hc5⟩
    · omega
    · refine h g' cap' w' ⟨cur, hc1, by simpa using hc2, hc3, by simpa using hc4, by simpa using hc5⟩ hgr ?_
      simpa [Value.ownBlock] using hloc

/-- A row of 64-bit numbers. -/
def IR (w : World) (g cap : Nat) (l : List Int) : Prop := Row w 2 g cap (l.map (Value.int .i64 ·))
section
variable {w w' : World} {g cap : Nat} {l : List Int}
theorem IR.at (h : IR w g cap l) {i : Nat} (hi : i < l.length) : w.cell? ⟨g, i, none⟩ = some (.int .i64 (l.getD i 0)) :=
  Row.cellD h (by simp [hi])
theorem IR.put (h : IR w g cap l) (i : Nat) (v : Int) : IR (w.setCell ⟨g, i, none⟩ (.int .i64 v)) g cap (l.set i v) := by
  unfold IR
  rw [List.map_set]
  exact Row.set h i _
theorem IR.same (h : IR w g cap l) (hh : w'.heap[g]? = w.heap[g]?) : IR w' g cap l := Row.same h hh
theorem IR.lt (h : IR w g cap l) : g < w.heap.size := Row.lt h
theorem IR.le (h : IR w g cap l) : l.length ≤ cap ∧ cap ≤ maxLen := by simpa using Row.le h
theorem IR.free (h : IR w g cap l) (i : Nat) : w.frozen? ⟨g, i, none⟩ = false := Row.free h i
theorem IR.take (h : IR w g cap l) (n : Nat) : IR w g cap (l.take n) := by
  obtain ⟨cur, h1, h2, h3, h4, h5⟩ := h
  refine ⟨cur, h1, ?_, h3, h4, ?_⟩
  · simp at h2 ⊢; omega
  · rw [List.map_take] at *
    rw [← h5]
    simp [List.take_take]
end

end Go.Proofs.Qxb6600637a
