/-
  'carry' by its contract: the frame by slots; the third loop.
-/
import Derived.Test.Qxb6600637aCarryLaw2
namespace Go.Proofs.Qxb6600637a
open Go.RowKit Go.Maps
set_option linter.unusedVariables false

/-! ### pieces of code -/
def cl : Code → Code
  | .seq a _ => a
  | c => c
def cr : Code → Code
  | .seq _ b => b
  | c => c
def ci : Code → Code
  | .block _ c => c
  | .loop c => c
  | .scope c => c
  | c => c
def ct : Code → Code
  | .cond _ a _ => a
  | c => c
def ce : Code → Code
  | .cond _ _ b => b
  | c => c
def bodyOf (f : Func) : Code := f.body.getD .skip

/-! ### a frame by its slots -/
def sl (a : Act) (i : Nat) : Value := a.tmps.getD i undef
structure Fr (n : Nat) (a : Act) : Prop where
  size : a.tmps.size = n
  defers : a.defers = []
theorem fr_any {n : Nat} {a : Act} (h : Fr n a) : a = ⟨((List.range n).map (sl a)).toArray, []⟩ := by
  obtain ⟨tmps, defers⟩ := a
  obtain ⟨h1, h2⟩ := h
  simp only at h1 h2
  subst h1 h2
  congr 1
  apply Array.ext
  · simp
  · intro i h1 h2
    simp [sl, h1]
set_option maxRecDepth 100000 in
theorem fr137 {a : Act} (h : Fr 137 a) : a = ⟨#[sl a 0, sl a 1, sl a 2, sl a 3, sl a 4, sl a 5, sl a 6, sl a 7, sl a 8, sl a 9, sl a 10, sl a 11, sl a 12, sl a 13, sl a 14, sl a 15, sl a 16, sl a 17, sl a 18, sl a 19, sl a 20, sl a 21, sl a 22, sl a 23, sl a 24, sl a 25, sl a 26, sl a 27, sl a 28, sl a 29, sl a 30, sl a 31, sl a 32, sl a 33, sl a 34, sl a 35, sl a 36, sl a 37, sl a 38, sl a 39, sl a 40, sl a 41, sl a 42, sl a 43, sl a 44, sl a 45, sl a 46, sl a 47, sl a 48, sl a 49, sl a 50, sl a 51, sl a 52, sl a 53, sl a 54, sl a 55, sl a 56, sl a 57, sl a 58, sl a 59, sl a 60, sl a 61, sl a 62, sl a 63, sl a 64, sl a 65, sl a 66, sl a 67, sl a 68, sl a 69, sl a 70, sl a 71, sl a 72, sl a 73, sl a 74, sl a 75, sl a 76, sl a 77, sl a 78, sl a 79, sl a 80, sl a 81, sl a 82, sl a 83, sl a 84, sl a 85, sl a 86, sl a 87, sl a 88, sl a 89, sl a 90, sl a 91, sl a 92, sl a 93, sl a 94, sl a 95, sl a 96, sl a 97, sl a 98, sl a 99, sl a 100, sl a 101, sl a 102, sl a 103, sl a 104, sl a 105, sl a 106, sl a 107, sl a 108, sl a 109, sl a 110, sl a 111, sl a 112, sl a 113, sl a 114, sl a 115, sl a 116, sl a 117, sl a 118, sl a 119, sl a 120, sl a 121, sl a 122, sl a 123, sl a 124, sl a 125, sl a 126, sl a 127, sl a 128, sl a 129, sl a 130, sl a 131, sl a 132, sl a 133, sl a 134, sl a 135, sl a 136], []⟩ := fr_any h

/-- The carry's own words: the sum's box. -/
def Box (w : World) (sb : Nat) (cur : Array Value) : Prop := w.heap[sb]? = some (.cells cur 54 (0, 0)) ∧ 0 < cur.size
theorem Box.same {w w' : World} {sb : Nat} {cur : Array Value} (h : Box w sb cur) (hh : w'.heap[sb]? = w.heap[sb]?) : Box w' sb cur := ⟨hh.trans h.1, h.2⟩
theorem Box.free {w : World} {sb : Nat} {cur : Array Value} (h : Box w sb cur) (i : Nat) : w.frozen? ⟨sb, i, none⟩ = false := by simp [World.frozen?, h.1]
theorem Box.at {w : World} {sb : Nat} {cur : Array Value} (h : Box w sb cur) : w.cell? ⟨sb, 0, none⟩ = some (cur[0]'h.2) := by
  simp only [World.cell?, h.1]
  simp [h.2]
theorem Box.put {w : World} {sb : Nat} {cur : Array Value} (h : Box w sb cur) (v : Value) : (w.setCell ⟨sb, 0, none⟩ v).cell? ⟨sb, 0, none⟩ = some v := by
  have h1 : (w.setCell ⟨sb, 0, none⟩ v).heap[sb]? = some (.cells (cur.setIfInBounds 0 v) 54 (0, 0)) := by
    simp [World.setCell, Array.getElem?_modify, h.1]
  simp only [World.cell?, h1]
  simp [h.2]

/-- What the carry leaves. -/
def Left34 (w0 : World) (lo sb : Nat) (l : List Int) (e : Ending) (w' : World) : Prop :=
  e = .returned (.tuple #[]) ∧ ∃ (l' : List Int) (n' g' cap' : Nat), n' = l'.length ∧ w'.cell? ⟨sb, 0, none⟩ = some (.slice (some ⟨g', 0, none⟩) n' cap') ∧ IR w' g' cap' l' ∧ Carried l' ∧ vl l' = vl l ∧ n' ≤ l.length + 1 ∧ Below lo w0 w'

noncomputable def c3 : Code := cr (cr (cr (cr (bodyOf Try.f34))))

set_option maxRecDepth 100000 in
set_option maxHeartbeats 4000000 in
theorem loop3 (w0 w : World) (a : Act) (hF : Fr 137 a) (lo sb g cap N p : Nat) (cur : Array Value) (l L : List Int) (hN : N = L.length) (hlen : N ≤ 131072) (hN2 : N ≤ l.length + 1) (hrow : IR w g cap L) (hbox : Box w sb cur) (hne : g ≠ sb) (hlo1 : lo ≤ g) (hlo2 : lo ≤ sb) (hbel : Below lo w0 w) (ht : T3 l L p)
    (s0 : sl a 0 = .pointer (some ⟨sb, 0, none⟩)) (s6 : sl a 6 = .slice (some ⟨g, 0, none⟩) N cap) (s7 : sl a 7 = .int .i64 p) :
    Code.wp Try.prog c3 (bodyPost Try.prog Try.f34 (Left34 w0 lo sb l)) a w := by
  have Hrow := keep hrow
  have Hbox := keep hbox
  have Hbel := keep hbel
  have Ht := keep ht
  have HN := keep hN
  have hcap : N ≤ cap := by have := hrow.le.1; omega
  have hp : p < N := by have := ht.1; omega
  have e := fr137 hF
  simp only [s0, s6, s7] at e
  rw [e]
  clear e s0 s6 s7 hrow hbox hbel ht hN hF
  conv => arg 2; whnf
  go_wp2_with fail
  go_loopg [7] p (fun m i wr => ∃ (q : Nat) (M : List Int), i = .int .i64 q ∧ q ≤ m ∧ q < N ∧ M.length = N ∧ Hid (IR wr g cap M ∧ Box wr sb cur ∧ Below lo w0 wr ∧ T3 l M q))
  case atStart => exact ⟨p, L, rfl, Nat.le_refl _, hp, HN.out.symm, ⟨Hrow.out, Hbox.out, Hbel.out, Ht.out⟩⟩
  case round =>
    rename_i J K hJ hK
    have HJ := keep hJ
    have HK := keep hK
    clear hJ hK
    clear Hrow Hbox Hbel Ht HN
    obtain ⟨q, M, rfl, hqm, hqN, hM, HH⟩ := hrel
    obtain ⟨hrow, hbox, hbel, ht⟩ := HH.out
    have hfr := hbox.free 0
    have hfg := hrow.free q
    have hcs := hbox.at
    generalize cur[0]'hbox.2 = v0 at hcs
    have Hbox := keep hbox
    have Hbel := keep hbel
    have Hrow := keep hrow
    clear HH hbox hbel
    cases q with
    | zero =>
      have hc0 := hrow.at (i := 0) (by omega)
      clear hrow
      by_cases h0 : M.getD 0 0 = 0
      · have he := keep (ht.end0 h0)
        rw [h0] at hc0
        clear h0 ht
        go_wp2_with fail
        go_end0
        exact ⟨rfl, [], 0, g, cap, rfl, Hbox.out.put _, (Hrow.out.take 0).same (Below.heap_setCell _ _ _ _ hne), he.out.1, he.out.2, Nat.zero_le _, Hbel.out.setCell hlo2 _⟩
      · have he := keep (ht.end1 h0)
        generalize M.getD 0 0 = x at hc0 h0
        have h0' : (x == 0) = false := by rw [beq_eq_false_iff_ne]; exact h0
        clear ht
        go_wp2_with fail
        go_end0
        exact ⟨rfl, M.take 1, 1, g, cap, he.out.2.2.symm, Hbox.out.put _, (Hrow.out.take 1).same (Below.heap_setCell _ _ _ _ hne), he.out.1, he.out.2.1, by omega, Hbel.out.setCell hlo2 _⟩
    | succ q =>
      have hc0 := hrow.at (i := q) (by omega)
      have hc1 := hrow.at (i := q + 1) (by omega)
      have hfg := hrow.free q
      by_cases hA : M.getD (q + 1) 0 = 0 ∧ M.getD q 0 < 2147483648
      · have he := keep (ht.zero hA.1 hA.2)
        obtain ⟨hA1, hA2⟩ := hA
        rw [hA1] at hc1
        clear hA1 ht hrow
        generalize M.getD q 0 = x at hc0 hA2
        have hK := HK.out
        go_wp2_with fail
        have hJ := HJ.out
        go_roundg q
        case measure => omega
        case rel => exact ⟨q, M, by go_num, Nat.le_refl _, by omega, hM, ⟨Hrow.out, Hbox.out, Hbel.out, he.out⟩⟩
      · by_cases hB : M.getD (q + 1) 0 = -1 ∧ 2147483648 ≤ M.getD q 0
        · have he := keep (ht.neg hB.1 hB.2)
          have hput := keep (hrow.put q (M.getD q 0 - 4294967296))
          have hxb := ht.2.2.1 q (by omega)
          obtain ⟨hB1, hB2⟩ := hB
          rw [hB1] at hc1
          clear hB1 ht hrow hA
          generalize M.getD q 0 = x at hc0 hB2 he hput hxb
          have hK := HK.out
          go_wp2_with fail
          have hJ := HJ.out
          go_roundg q
          case measure => omega
          case rel => exact ⟨q, M.set q (x - 4294967296), by go_num, Nat.le_refl _, by omega, by simpa using hM, ⟨hput.out, Hbox.out.same (Below.heap_setCell _ _ _ _ (Ne.symm hne)), Hbel.out.setCell hlo1 _, he.out⟩⟩
        · have he := keep (ht.stop hA hB)
          clear ht hrow
          generalize M.getD q 0 = x at hc0 hA hB
          generalize M.getD (q + 1) 0 = y at hc1 hA hB
          have hA' : (y == 0 && decide (x < 2147483648)) = false := by
            rw [Bool.and_eq_false_iff, beq_eq_false_iff_ne, decide_eq_false_iff_not]
            omega
          have hB' : (y == -1 && decide (2147483648 ≤ x)) = false := by
            rw [Bool.and_eq_false_iff, beq_eq_false_iff_ne, decide_eq_false_iff_not]
            omega
          go_wp2_with fail
          all_goals (go_end0; exact ⟨rfl, M.take (q + 2), q + 2, g, cap, he.out.2.2.symm, Hbox.out.put _, (Hrow.out.take (q + 2)).same (Below.heap_setCell _ _ _ _ hne), he.out.1, he.out.2.1, by omega, Hbel.out.setCell hlo2 _⟩)

end Go.Proofs.Qxb6600637a
