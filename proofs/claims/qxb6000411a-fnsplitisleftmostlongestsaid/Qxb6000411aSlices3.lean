/-
  newStringSet: the three slices of the automaton are made (stringset.go:66 to 68).
-/
import Derived.Test.Qxb6000411aLoop3
import Derived.Deep.OwnRows
import Derived.BigRegion
namespace Go.Proofs.Qxb6000411a
open Go.RowKit Go.Maps Pl
def nrm (K : Act → World → Prop) : Exit → Act → World → Prop
  | .normal, a, w => K a w
  | _, _, _ => False
theorem wp_nrm {P : Program} {c : Code} {Q : Exit → Act → World → Prop} {a : Act} {w : World} (h : c.wp P (nrm (fun a w => Q .normal a w)) a w) : c.wp P Q a w :=
  wp_mono h fun e a w h => by cases e <;> first | exact h | exact h.elim

def zeros (n : Nat) : List Value := List.replicate n (.int .i32 0)
theorem mem32 {w : World} {sb mb n : Nat} {rt : Nat → Int} (hS : Str w sb rt mb nilS nilS nilS) (hn : n < 1073741824) (x y z : Nat) (hx : x = w.heap.size ∨ x = w.heap.size + 1 ∨ x = w.heap.size + 1 + 1) (hy : y = w.heap.size ∨ y = w.heap.size + 1 ∨ y = w.heap.size + 1 + 1) (hz : z = w.heap.size ∨ z = w.heap.size + 1 ∨ z = w.heap.size + 1 + 1)
    (W : World) (hW : W = ((((((w.setCell ⟨sb, 257, none⟩ (.slice (some ⟨x, 0, none⟩) n n)).setCell ⟨sb, 258, none⟩ (.slice (some ⟨y, 0, none⟩) n n)).setCell ⟨sb, 259, none⟩ (.slice (some ⟨z, 0, none⟩) n n)).alloc (.cells (madeCells #[.int .i32 0] n) 21)).alloc (.cells (madeCells #[.int .i32 0] n) 21)).alloc (.cells (madeCells #[.int .i32 0] n) 21)).drew) :
    Str W sb rt mb (.slice (some ⟨x, 0, none⟩) n n) (.slice (some ⟨y, 0, none⟩) n n) (.slice (some ⟨z, 0, none⟩) n n) ∧ Row W 21 x n (zeros n) ∧ Row W 21 y n (zeros n) ∧ Row W 21 z n (zeros n) ∧ w.grownBy W (some sb) ∧ W.heap.size = w.heap.size + 3 := by
  have hlt := hS.lt
  have h1 := hS.setCell 257 (.slice (some ⟨x, 0, none⟩) n n) (rt' := rt) (fv' := .slice (some ⟨x, 0, none⟩) n n) (lv' := nilS) (ev' := nilS) (fun b hb => if_neg (by omega)) (by decide) rfl rfl rfl
  have g1 := grown_setCell w ⟨sb, 257, none⟩ (.slice (some ⟨x, 0, none⟩) n n)
  generalize hw1 : w.setCell ⟨sb, 257, none⟩ (.slice (some ⟨x, 0, none⟩) n n) = w1 at *
  have z1 : w1.heap.size = w.heap.size := by rw [← hw1]; simp
  have h2 := h1.setCell 258 (.slice (some ⟨y, 0, none⟩) n n) (rt' := rt) (fv' := .slice (some ⟨x, 0, none⟩) n n) (lv' := .slice (some ⟨y, 0, none⟩) n n) (ev' := nilS) (fun b hb => if_neg (by omega)) (by decide) rfl rfl rfl
  have g2 := grown_setCell w1 ⟨sb, 258, none⟩ (.slice (some ⟨y, 0, none⟩) n n)
  generalize hw2 : w1.setCell ⟨sb, 258, none⟩ (.slice (some ⟨y, 0, none⟩) n n) = w2 at *
  have z2 : w2.heap.size = w.heap.size := by rw [← hw2]; simp [z1]
  have h3 := h2.setCell 259 (.slice (some ⟨z, 0, none⟩) n n) (rt' := rt) (fv' := .slice (some ⟨x, 0, none⟩) n n) (lv' := .slice (some ⟨y, 0, none⟩) n n) (ev' := .slice (some ⟨z, 0, none⟩) n n) (fun b hb => if_neg (by omega)) (by decide) rfl rfl rfl
  have g3 := grown_setCell w2 ⟨sb, 259, none⟩ (.slice (some ⟨z, 0, none⟩) n n)
  generalize hw3 : w2.setCell ⟨sb, 259, none⟩ (.slice (some ⟨z, 0, none⟩) n n) = w3 at *
  have z3 : w3.heap.size = w.heap.size := by rw [← hw3]; simp [z2]
  have hml : (madeCells #[Value.int .i32 0] n).toList = zeros n := toList_madeCells_one _ _
  have hms : (madeCells #[Value.int .i32 0] n).size = n := size_madeCells _ _
  have b4 := Row.made w3 21 (madeCells #[.int .i32 0] n) (by rw [hms]; unfold maxLen; omega)
  rw [hml, hms, z3] at b4
  have g4 := World.grownBy_alloc w3 (.cells (madeCells #[.int .i32 0] n) 21) (some sb)
  have h4 := h3.alloc (.cells (madeCells #[.int .i32 0] n) 21)
  generalize hw4 : w3.alloc (.cells (madeCells #[.int .i32 0] n) 21) = w4 at *
  have z4 : w4.heap.size = w.heap.size + 1 := by rw [← hw4]; simp [z3]
  have b5 := Row.made w4 21 (madeCells #[.int .i32 0] n) (by rw [hms]; unfold maxLen; omega)
  rw [hml, hms, z4] at b5
  have g5 := World.grownBy_alloc w4 (.cells (madeCells #[.int .i32 0] n) 21) (some sb)
  have h5 := h4.alloc (.cells (madeCells #[.int .i32 0] n) 21)
  have c5 := b4.alloc (.cells (madeCells #[.int .i32 0] n) 21)
  generalize hw5 : w4.alloc (.cells (madeCells #[.int .i32 0] n) 21) = w5 at *
  have z5 : w5.heap.size = w.heap.size + 1 + 1 := by rw [← hw5]; simp [z4]
  have b6 := Row.made w5 21 (madeCells #[.int .i32 0] n) (by rw [hms]; unfold maxLen; omega)
  rw [hml, hms, z5] at b6
  have g6 := World.grownBy_alloc w5 (.cells (madeCells #[.int .i32 0] n) 21) (some sb)
  have h6 := h5.alloc (.cells (madeCells #[.int .i32 0] n) 21)
  have c6 := c5.alloc (.cells (madeCells #[.int .i32 0] n) 21)
  have d6 := b5.alloc (.cells (madeCells #[.int .i32 0] n) 21)
  subst hW
  have hrow : ∀ v, (v = w.heap.size ∨ v = w.heap.size + 1 ∨ v = w.heap.size + 1 + 1) → Row (w5.alloc (.cells (madeCells #[.int .i32 0] n) 21)).drew 21 v n (zeros n) := by
    rintro v (rfl | rfl | rfl)
    · exact c6
    · exact d6
    · exact b6
  refine ⟨h6, hrow x hx, hrow y hy, hrow z hz, ((((g1.trans g2).trans g3).trans g4).trans g5).trans (g6.trans (grown_drew _ _)), ?_⟩
  rw [World.size_drew, World.size_alloc, z5]

set_option maxRecDepth 100000 in
set_option maxHeartbeats 1000000 in
theorem seg32 (a : Act) (w : World) (Q : Exit → Act → World → Prop) (hF : Fr 285 a) (sb n : Nat) {rt : Nat → Int} {mb : Nat} (hS : Str w sb rt mb nilS nilS nilS) (hn : n < 1073741824)
    (s3 : sl a 3 = .pointer (some ⟨sb, 0, none⟩)) (s18 : sl a 18 = .int .i64 (n : Int))
    (hQ : ∀ a' w' x y z, Fr 285 a' → Keeps [3, 4, 5, 6, 7, 15] a a' → x ≠ y → x ≠ z → y ≠ z → w.heap.size ≤ x → w.heap.size ≤ y → w.heap.size ≤ z →
      Str w' sb rt mb (.slice (some ⟨x, 0, none⟩) n n) (.slice (some ⟨y, 0, none⟩) n n) (.slice (some ⟨z, 0, none⟩) n n) → Row w' 21 x n (zeros n) → Row w' 21 y n (zeros n) → Row w' 21 z n (zeros n) → w.grownBy w' (some sb) → Q .normal a' w') :
    Code.wp Try.prog (cl (cr (pE (bodyOf Try.f47)))) Q a w := by
  refine wp_nrm ?_
  have hmk := run_make_row' (P := Try.prog) 46 21 (.int .i32 0) 4 Try.underlying46 info21 rfl .i64 .i64 n (by omega) (by omega)
  have hlt := hS.lt
  have hlt1 : sb < w.heap.size + 1 := by omega
  have hlt2 : sb < w.heap.size + 1 + 1 := by omega
  have c1 := hS.cF
  have c2 := hS.cL
  have c3 := hS.cE
  have f1 := hS.free 257
  have f2 := hS.free 258
  have f3 := hS.free 259
  have e := fr285 hF
  simp only [s3, s18] at e
  rw [e]
  have hfin : ∀ (a' : Act) (x y z : Nat) (W : World), Fr 285 a' → Keeps [3, 4, 5, 6, 7, 15] a a' → x ≠ y → x ≠ z → y ≠ z → (x = w.heap.size ∨ x = w.heap.size + 1 ∨ x = w.heap.size + 1 + 1) → (y = w.heap.size ∨ y = w.heap.size + 1 ∨ y = w.heap.size + 1 + 1) → (z = w.heap.size ∨ z = w.heap.size + 1 ∨ z = w.heap.size + 1 + 1) →
      W = ((((((w.setCell ⟨sb, 257, none⟩ (.slice (some ⟨x, 0, none⟩) n n)).setCell ⟨sb, 258, none⟩ (.slice (some ⟨y, 0, none⟩) n n)).setCell ⟨sb, 259, none⟩ (.slice (some ⟨z, 0, none⟩) n n)).alloc (.cells (madeCells #[.int .i32 0] n) 21)).alloc (.cells (madeCells #[.int .i32 0] n) 21)).alloc (.cells (madeCells #[.int .i32 0] n) 21)).drew → Q .normal a' W := by
    intro a' x y z W hF' hk n1 n2 n3 hx hy hz hW
    obtain ⟨m1, m2, m3, m4, m5, m6⟩ := mem32 hS hn x y z hx hy hz W hW
    exact hQ a' W x y z hF' hk n1 n2 n3 (by omega) (by omega) (by omega) m1 m2 m3 m4 m5
  have Hfin := keep hfin
  have H3 := keep s3
  clear e s3 s18 hS hQ hfin
  conv => arg 2; whnf
  go_region
  all_goals
    refine Hfin.out _ _ _ _ _ ⟨rfl, rfl⟩ ?_ ?_ ?_ ?_ ?_ ?_ ?_ rfl
    · intro i hi
      simp only [List.mem_cons, List.not_mem_nil, or_false] at hi
      rcases hi with rfl | rfl | rfl | rfl | rfl | rfl
      all_goals first | rfl | exact H3.out.symm
    all_goals omega
end Go.Proofs.Qxb6000411a
