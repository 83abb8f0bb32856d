/-
  Memory words for the walks of this seat: a row of cells in a block of its own ('Row'), what an append of one element does to it, the trie's map ('MapIs').
-/
import Derived.Test.Qxb6000411aRows
import Derived.WalkKit
import Derived.WalkSpells
import Derived.WalkLawsBesides
import Derived.Maps.OwnSet
import Derived.Maps.AppendAt
import Derived.BigQuiet
import Derived.Deep.QuietTactic
namespace Go.Proofs.Qxb6000411a
open Go.RowKit Go.Maps

theorem keep {p : Prop} (h : p) : Hid p := h

/-! ### the key of the map -/
theorem bits_key (s b : Int) (hs0 : 0 ≤ s) (hs1 : s < 2147483648) (hb0 : 0 ≤ b) (hb1 : b < 256) : bits BinOp.or IntKind.u64 (s * 256) b = s * 256 + b := by
  obtain ⟨s, rfl⟩ := Int.eq_ofNat_of_zero_le hs0
  obtain ⟨b, rfl⟩ := Int.eq_ofNat_of_zero_le hb0
  have e1 : ((s : Int) * 256) = ((s * 256 : Nat) : Int) := by omega
  have e2 : (s * 256) ||| b = s * 256 + b := by
    have := Nat.shiftLeft_add_eq_or_of_lt (i := 8) (b := b) (by omega) s
    rw [Nat.shiftLeft_eq] at this
    exact this.symm
  rw [e1]
  show IntKind.u64.wrap (((BitVec.ofInt 64 ((s * 256 : Nat) : Int)) ||| (BitVec.ofInt 64 (b : Int))).toNat : Int) = _
  rw [BitVec.ofInt_natCast, BitVec.ofInt_natCast, BitVec.toNat_or, BitVec.toNat_ofNat, BitVec.toNat_ofNat, Nat.mod_eq_of_lt (by omega), Nat.mod_eq_of_lt (by omega), e2]
  rw [IntWalk.u64_in _ (by omega)]
  omega

/-! ### rows -/
def Row (w : World) (e : TypeId) (g cap : Nat) (xs : List Value) : Prop :=
  ∃ cur, w.heap[g]? = some (.cells cur e (0, 0)) ∧ xs.length ≤ cap ∧ cap ≤ maxLen ∧ cur.size = cap ∧ cur.toList.take xs.length = xs

section
variable {w w' : World} {e : TypeId} {g cap : Nat} {xs : List Value}
theorem Row.lt (h : Row w e g cap xs) : g < w.heap.size := by
  obtain ⟨cur, h1, _⟩ := h
  exact (Array.getElem?_eq_some_iff.1 h1).1
theorem Row.le (h : Row w e g cap xs) : xs.length ≤ cap ∧ cap ≤ maxLen := by
  obtain ⟨cur, _, h1, h2, _⟩ := h
  exact ⟨h1, h2⟩
theorem Row.same (h : Row w e g cap xs) (hh : w'.heap[g]? = w.heap[g]?) : Row w' e g cap xs := by
  obtain ⟨cur, h1, r⟩ := h
  exact ⟨cur, hh.trans h1, r⟩
theorem Row.kept {r : Option Nat} (h : Row w e g cap xs) (hg : w.grownBy w' r) (hne : some g ≠ r) : Row w' e g cap xs := h.same (hg.block g h.lt hne)
theorem Row.cell (h : Row w e g cap xs) {i : Nat} (hi : i < xs.length) : w.cell? ⟨g, i, none⟩ = some xs[i] := by
  obtain ⟨cur, h1, h2, h3, h4, h5⟩ := h
  have : xs[i]? = cur.toList[i]? := by rw [← h5, List.getElem?_take, if_pos hi]
  rw [List.getElem?_eq_getElem hi] at this
  simp only [World.cell?, h1]
  simpa using this.symm
theorem Row.cellD (h : Row w e g cap xs) {i : Nat} {x : Value} (hi : xs[i]? = some x) : w.cell? ⟨g, i, none⟩ = some x := by
  obtain ⟨hlt, rfl⟩ := List.getElem?_eq_some_iff.1 hi
  exact h.cell hlt
theorem Row.free (h : Row w e g cap xs) (i : Nat) : w.frozen? ⟨g, i, none⟩ = false := by
  obtain ⟨cur, h1, _⟩ := h
  simp [World.frozen?, h1]
theorem Row.set (h : Row w e g cap xs) (i : Nat) (x : Value) : Row (w.setCell ⟨g, i, none⟩ x) e g cap (xs.set i x) := by
  obtain ⟨cur, h1, h2, h3, h4, h5⟩ := h
  refine ⟨cur.setIfInBounds i x, ?_, by simpa using h2, h3, by simpa using h4, ?_⟩
  · simp [World.setCell, Array.getElem?_modify, h1]
  · simp only [List.length_set, Array.toList_setIfInBounds]
    rw [List.take_set, h5]
theorem Row.owns (h : Row w e g cap xs) : w.ownsRow 0 e 1 (.slice (some ⟨g, 0, none⟩) xs.length cap) xs.length xs := by
  obtain ⟨cur, h1, h2, h3, h4, h5⟩ := h
  exact ⟨by simp, .inr ⟨g, cap, cur, rfl, Nat.zero_le _, h1, h2, h3, by simpa using h4, by simpa using h5⟩⟩
theorem Row.alloc (h : Row w e g cap xs) (o : Obj) : Row (w.alloc o) e g cap xs := h.kept (World.grownBy_alloc w o none) (by simp)
theorem Row.drew (h : Row w e g cap xs) : Row w.drew e g cap xs := h
theorem Row.made (w : World) (e : TypeId) (cur : Array Value) (hm : cur.size ≤ maxLen) : Row (w.alloc (.cells cur e)) e w.heap.size cur.size cur.toList :=
  ⟨cur, heap_alloc_new w _, by simp, hm, rfl, List.take_of_length_le (by simp)⟩
theorem Row.made0 (w : World) (e : TypeId) (cur : Array Value) (hm : cur.size ≤ maxLen) : Row (w.alloc (.cells cur e)) e w.heap.size cur.size [] :=
  ⟨cur, heap_alloc_new w _, by simp, hm, rfl, by simp⟩
end

theorem grown_setCell (w : World) (a : Addr) (v : Value) : w.grownBy (w.setCell a v) (some a.block) :=
  ⟨rfl, rfl, rfl, by simp, fun k _ hne => Below.heap_setCell w a v k (fun e => hne (by rw [e]))⟩
theorem grown_drew (w : World) (r : Option Nat) : w.grownBy w.drew r := ⟨rfl, rfl, rfl, Nat.le_refl _, fun _ _ _ => rfl⟩

/-- 'append(s, x)', s a row of the call's own, x in a block of its own. -/
theorem wpList_app {P : Program} (w : World) {ops : Array Oper} {rest : List Oper} {o : Oper} {a : Act} {Q : Exit → Act → World → Prop} (hgd : o.guard = none) (s x : Operand) (t : TypeId)
    (ho : o.op = .call { callee := .builtin .append, args := #[s, x], argTypes := #[t, t] })
    (e : TypeId) (z : Value) (bytes : Nat) (ht : P.underlying t = some (.slice e)) (hi : (P.info? e).map (fun i => (i.zero, i.size, i.bytes)) = some (some z, 1, bytes)) (hz : z.cells.size = 1)
    (g cap : Nat) (xs : List Value) (hs : a.eval s = .slice (some ⟨g, 0, none⟩) xs.length cap) (hrow : Row w e g cap xs)
    (ad c : Nat) (y : Value) (hx : a.eval x = .slice (some ⟨ad, 0, none⟩) 1 c) (hy : w.cell? ⟨ad, 0, none⟩ = some y) (h1 : y.oneCell' = true)
    (hbytes : (xs.length + 1) * bytes ≤ 140737488355328) (h63 : xs.length + 1 ≤ maxLen)
    (h : ∀ g' cap' w', Row w' e g' cap' (xs ++ [y]) → w.grownBy w' (some g) → (g' = g ∨ g' = w.heap.size) → wpList P ops Q rest (a.put o.dst (.slice (some ⟨g', 0, none⟩) (xs.length + 1) cap')) w') :
    wpList P ops Q (o :: rest) a w := by
  obtain ⟨i, hi1, hi2, hi3, hi4⟩ := info_parts hi
  refine wpList_append_own_at w hgd s x t ho 0 e i z 1 bytes ht hi1 hi2 hi3 hi4 hz (by decide) _ _ _ hs hrow.owns ⟨ad, 0, none⟩ 1 c [y] hx rfl ?_ ?_ h63 hbytes (Nat.zero_le _) ?_
  · intro j u hj
    match j, hj with
    | 0, hj => simp at hj; subst hj; simpa [Addr.add] using hy
  · intro u hu; simp at hu; subst hu; exact h1
  · intro v' w' hown hgr hnil hloc
    obtain ⟨hlen, hown⟩ := hown
    rcases hown with ⟨rfl, h0⟩ | ⟨g', cap', cur, rfl, _, hc1, hc2, hc3, hc4, hc5⟩
    · omega
    · refine h g' cap' w' ⟨cur, hc1, by simpa using hc2, hc3, by simpa using hc4, by simpa using hc5⟩ hgr ?_
      simpa [Value.ownBlock] using hloc

/-- 'append(s, x)', s nil. -/
theorem wpList_app0 {P : Program} (w : World) {ops : Array Oper} {rest : List Oper} {o : Oper} {a : Act} {Q : Exit → Act → World → Prop} (hgd : o.guard = none) (s x : Operand) (t : TypeId)
    (ho : o.op = .call { callee := .builtin .append, args := #[s, x], argTypes := #[t, t] })
    (e : TypeId) (z : Value) (bytes : Nat) (ht : P.underlying t = some (.slice e)) (hi : (P.info? e).map (fun i => (i.zero, i.size, i.bytes)) = some (some z, 1, bytes)) (hz : z.cells.size = 1)
    (hs : a.eval s = .slice none 0 0)
    (ad m c : Nat) (ys : List Value) (hx : a.eval x = .slice (some ⟨ad, 0, none⟩) m c) (hm : ys.length = m) (hm0 : 0 < m) (hy : ∀ j u, ys[j]? = some u → w.cell? ⟨ad, j, none⟩ = some u) (h1 : ∀ u ∈ ys, u.oneCell' = true)
    (hbytes : m * bytes ≤ 140737488355328) (h63 : m ≤ maxLen)
    (h : ∀ cap' w', Row w' e w.heap.size cap' ys → w.grownBy w' none → wpList P ops Q rest (a.put o.dst (.slice (some ⟨w.heap.size, 0, none⟩) m cap')) w') :
    wpList P ops Q (o :: rest) a w := by
  obtain ⟨i, hi1, hi2, hi3, hi4⟩ := info_parts hi
  refine wpList_append_own_at w hgd s x t ho 0 e i z 1 bytes ht hi1 hi2 hi3 hi4 hz (by decide) _ 0 [] hs (World.ownsRow_nil _ _ _ _) ⟨ad, 0, none⟩ m c ys hx (by simpa using hm) ?_ h1 (by simpa using h63) (by simpa using hbytes) (Nat.zero_le _) ?_
  · intro j u hj
    rw [Addr.add_lit]
    simpa using hy j u hj
  · intro v' w' hown hgr hnil hloc
    obtain ⟨hlen, hown⟩ := hown
    rcases hown with ⟨rfl, h0⟩ | ⟨g', cap', cur, rfl, _, hc1, hc2, hc3, hc4, hc5⟩
    · omega
    · have hg : g' = w.heap.size := by simpa [Value.ownBlock] using hloc
      subst hg
      simp only [Nat.zero_add, List.nil_append, Nat.mul_one] at *
      exact h cap' w' ⟨cur, hc1, by rw [hm]; exact hc2, hc3, hc4, by rw [hm]; exact hc5⟩ hgr

/-- 'append(s, xs...)', s a row of the call's own. -/
theorem wpList_apps {P : Program} (w : World) {ops : Array Oper} {rest : List Oper} {o : Oper} {a : Act} {Q : Exit → Act → World → Prop} (hgd : o.guard = none) (s x : Operand) (t : TypeId)
    (ho : o.op = .call { callee := .builtin .append, args := #[s, x], argTypes := #[t, t] })
    (e : TypeId) (z : Value) (bytes : Nat) (ht : P.underlying t = some (.slice e)) (hi : (P.info? e).map (fun i => (i.zero, i.size, i.bytes)) = some (some z, 1, bytes)) (hz : z.cells.size = 1)
    (g cap : Nat) (xs : List Value) (hs : a.eval s = .slice (some ⟨g, 0, none⟩) xs.length cap) (hrow : Row w e g cap xs)
    (ad m c : Nat) (ys : List Value) (hx : a.eval x = .slice (some ⟨ad, 0, none⟩) m c) (hm : ys.length = m) (hy : ∀ j u, ys[j]? = some u → w.cell? ⟨ad, j, none⟩ = some u) (h1 : ∀ u ∈ ys, u.oneCell' = true) (hm0 : 0 < m)
    (hbytes : (xs.length + m) * bytes ≤ 140737488355328) (h63 : xs.length + m ≤ maxLen)
    (h : ∀ g' cap' w', Row w' e g' cap' (xs ++ ys) → w.grownBy w' (some g) → (g' = g ∨ g' = w.heap.size) → wpList P ops Q rest (a.put o.dst (.slice (some ⟨g', 0, none⟩) (xs.length + m) cap')) w') :
    wpList P ops Q (o :: rest) a w := by
  obtain ⟨i, hi1, hi2, hi3, hi4⟩ := info_parts hi
  refine wpList_append_own_at w hgd s x t ho 0 e i z 1 bytes ht hi1 hi2 hi3 hi4 hz (by decide) _ _ _ hs hrow.owns ⟨ad, 0, none⟩ m c ys hx (by simpa using hm) ?_ h1 h63 hbytes (Nat.zero_le _) ?_
  · intro j u hj
    rw [Addr.add_lit]
    simpa using hy j u hj
  · intro v' w' hown hgr hnil hloc
    obtain ⟨hlen, hown⟩ := hown
    rcases hown with ⟨rfl, h0⟩ | ⟨g', cap', cur, rfl, _, hc1, hc2, hc3, hc4, hc5⟩
    · omega
    · refine h g' cap' w' ⟨cur, hc1, by rw [List.length_append, hm]; exact hc2, hc3, by simpa using hc4, by rw [List.length_append, hm]; simpa using hc5⟩ hgr ?_
      simpa [Value.ownBlock] using hloc

/-! ### the map -/
theorem law85 : Keyed Try.prog 85 := int_keyed Try.underlying85
theorem zero21 (w : World) : (zeroValue 21).run Try.prog w = .ok (.int .i32 0) w := by kernel_rfl

theorem keyLit (k : Int) : WideAt.IsKeyLit (.int .u64 k) := by trivial

/-- Block mb is a map from uint64 to int32 that holds at key k what 'g k' says. -/
def MapIs (w : World) (mb n : Nat) (g : Int → Option Int) : Prop :=
  ∃ D : DataW Unit, w.ownsMap Try.prog 85 (plainElem Try.prog 21) mb n D ∧
    ∀ k : Int, Maps.has D (.int .u64 k) = (g k).isSome ∧ D.atKey (.int .u64 k) (.lit (.int .i32 0)) = .lit (.int .i32 ((g k).getD 0))
section
variable {w w' : World} {mb n : Nat} {g : Int → Option Int}
theorem MapIs.lt (h : MapIs w mb n g) : mb < w.heap.size := by
  obtain ⟨D, ⟨es, clock, hb, _⟩, _⟩ := h
  exact (Array.getElem?_eq_some_iff.1 hb).1
theorem MapIs.same (h : MapIs w mb n g) (hh : w'.heap[mb]? = w.heap[mb]?) : MapIs w' mb n g := by
  obtain ⟨D, ⟨es, clock, hb, r⟩, hD⟩ := h
  exact ⟨D, ⟨es, clock, hh.trans hb, r⟩, hD⟩
theorem MapIs.kept {r : Option Nat} (h : MapIs w mb n g) (hg : w.grownBy w' r) (hne : some mb ≠ r) : MapIs w' mb n g := h.same (hg.block mb h.lt hne)
set_option maxRecDepth 100000 in
theorem MapIs.look (h : MapIs w mb n g) (k : Int) (h0 : 0 ≤ k) (h1 : k < 18446744073709551616) :
    (Instr.lookup 78 (.map (some mb)) (.int .u64 k) true).run Try.prog w = .ok (.tuple #[.int .i32 ((g k).getD 0), .bool (g k).isSome]) w := by
  obtain ⟨D, hown, hD⟩ := h
  obtain ⟨v, ps, hrun, hv⟩ := hown.look_ok law85 Try.underlying78 (zero21 _) (plainElem_int Try.underlying21 (by decide)) (keyOf_int_mk Try.underlying85 (a := k) (WalkArith.wf_u64 (by omega)))
  obtain ⟨c, rfl, hc, hwc⟩ := plainElem_int_inv Try.underlying21 hv
  rw [(hD k).2] at hc
  rw [hrun, (hD k).1]
  have : (g k).getD 0 = c := by injection hc with h1 _; injection h1 with h1; injection h1 with _ h1
  rw [this]
set_option maxRecDepth 100000 in
theorem MapIs.store (h : MapIs w mb n g) (hn : n < maxLen) (k v : Int) (h0 : 0 ≤ k) (h1 : k < 18446744073709551616) (hv0 : 0 ≤ v) (hv1 : v < 2147483648) :
    ∃ w', (Instr.mapUpdate 78 (.map (some mb)) (.int .u64 k) (.int .i32 v)).run Try.prog w = .ok () w' ∧ MapIs w' mb (n + 1) (fun j => if j = k then some v else g j) ∧ w.grownBy w' (some mb) := by
  obtain ⟨D, hown, hD⟩ := h
  obtain ⟨w', hrun, hown', ht⟩ := hown.store law85 Try.underlying78 hn (key := .int .u64 k) (val := .int .i32 v) (kl := .int .u64 k) (d := .lit (.int .i32 v)) (ps := [])
    (keyOf_int_mk Try.underlying85 (a := k) (WalkArith.wf_u64 (by omega))) (plainElem_int Try.underlying21 (WalkArith.wf_i32 (by omega)))
  refine ⟨w', hrun, ⟨_, hown', fun j => ?_⟩, ht.grown⟩
  by_cases hj : j = k
  · subst hj
    simp only [if_true, Option.isSome_some, Option.getD_some]
    exact ⟨has_put_same hown.isMap (keyLit _) _, atKey_put_same hown.isMap (keyLit _) _ _⟩
  · have hne : (Lit.int .u64 j) ≠ (Lit.int .u64 k) := by simpa using hj
    simp only [if_neg hj]
    rw [has_put_other hne, atKey_put_other hne]
    exact hD j
theorem MapIs.made (w : World) : MapIs (w.alloc (.map #[] 0)) w.heap.size 0 (fun _ => none) :=
  ⟨.map [], World.ownsMap_made w _ _ _, fun _ => ⟨rfl, rfl⟩⟩
end
end Go.Proofs.Qxb6000411a
