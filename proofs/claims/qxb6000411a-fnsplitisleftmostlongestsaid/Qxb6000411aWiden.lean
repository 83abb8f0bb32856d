/-
  'widen' by its contract.
-/
import Derived.Test.Qxb6000411aIndex
import Derived.Test.Qxb6000411aSlices3
namespace Go.Proofs.Qxb6000411a
open Go.RowKit Go.Maps Pl
set_option linter.unusedVariables false

/-- A row of int32 by index. -/
def IRow (w : World) (g cap n : Nat) (F : Nat → Int) : Prop := Row w 21 g cap ((List.range n).map fun j => .int .i32 (F j))
section
variable {w w' : World} {g cap n : Nat} {F F' : Nat → Int}
theorem IRow.at (h : IRow w g cap n F) {j : Nat} (hj : j < n) : w.cell? ⟨g, j, none⟩ = some (.int .i32 (F j)) := Row.cellD h (by simp [hj])
theorem IRow.put (h : IRow w g cap n F) {i : Nat} (hi : i < n) (v : Int) (hF : ∀ j, j < n → F' j = if j = i then v else F j) : IRow (w.setCell ⟨g, i, none⟩ (.int .i32 v)) g cap n F' := by
  have hm : ((List.range n).map fun j => Value.int .i32 (F' j)) = ((List.range n).map fun j => Value.int .i32 (F j)).set i (.int .i32 v) := by
    apply List.ext_getElem?
    intro j
    rw [List.getElem?_set, List.getElem?_map, List.getElem?_map]
    by_cases hj : i = j
    · subst hj
      rw [if_pos rfl, if_pos (by simpa using hi), List.getElem?_range hi]
      simp [hF i hi]
    · rw [if_neg hj]
      by_cases hjn : j < n
      · rw [List.getElem?_range hjn]
        have : j ≠ i := fun e => hj e.symm
        simp [hF j hjn, this]
      · rw [List.getElem?_eq_none (by simpa using hjn)]
        rfl
  unfold IRow
  rw [hm]
  exact Row.set h _ _
theorem IRow.congr (h : IRow w g cap n F) (hi : ∀ j, j < n → F' j = F j) : IRow w g cap n F' := by
  unfold IRow
  rw [show ((List.range n).map fun j => Value.int .i32 (F' j)) = (List.range n).map fun j => Value.int .i32 (F j) from List.map_congr_left fun j hj => by rw [hi j (by simpa using hj)]]
  exact h
end

theorem SetIs.grown {w w' : World} {lo hi sb r : Nat} {strs : List (List UInt8)} (h : SetIs w lo hi sb strs) (hg : w.grownBy w' (some r)) (hhi : hi ≤ w.heap.size) (hr : r < lo ∨ hi ≤ r) : SetIs w' lo hi sb strs :=
  h.same fun k h1 h2 => hg.block k (by omega) (by simp; omega)

set_option maxRecDepth 100000 in
set_option maxHeartbeats 2000000 in
theorem widen_any (text : ByteArray) (w : World) (lo hi sb : Nat) (strs : List (List UInt8)) (h : SetIs w lo hi sb strs) (hhi : hi ≤ w.heap.size) (hs : text.size ≤ 1048576) (lb' cap : Nat) (hlb : lb' < lo ∨ hi ≤ lb') {X : Nat → Int} (hX : IRow w lb' cap text.size X) (hXb : ∀ j, 0 ≤ X j ∧ X j ≤ 1048576) :
    Calls Try.prog 48 #[.pointer (some ⟨sb, 0, none⟩), .string text, .slice (some ⟨lb', 0, none⟩) text.size cap] w fun e w' => e = .returned (.tuple #[]) ∧ IRow w' lb' cap text.size (fun j => max (X j) (lg strs ((bsl text).drop j) : Int)) ∧ w.grownBy w' (some lb') := by
  have HX := keep hX
  have H := keep h
  obtain ⟨tx, mb, n, fb, fcap, gb, gcap, eb, ecap, h0, hr1, hr2, hr3, hr4, hr5⟩ := h
  have hnil : ix tx (lp tx ((bsl text).drop text.size)) = 0 := by
    rw [List.drop_of_length_le (by rw [bsl_len]; exact Nat.le_refl _), lp_nil, h0.trie.ix_nil]
  have hR0 := keep (And.intro hr1 (And.intro hr2 (And.intro hr3 (And.intro hr4 hr5))))
  have H0 := keep h0
  have Hnil := keep hnil
  clear h0 hX hr1 hr2 hr3 hr4 hr5 hnil
  go_enter Try.func48, Try.ntmps48
  go_wp2_with fail
  go_loopg [6, 7] text.size (fun m s i wr => ∃ k : Nat, k ≤ text.size ∧ k ≤ m ∧ i = .int .i64 ((k : Int) - 1) ∧ s = .int .i32 (ix tx (lp tx ((bsl text).drop k)) : Int) ∧ w.grownBy wr (some lb') ∧ IRow wr lb' cap text.size (fun j => if j < k then X j else max (X j) (lg strs ((bsl text).drop j) : Int)))
  case atStart => exact ⟨text.size, Nat.le_refl _, Nat.le_refl _, rfl, by rw [Hnil.out]; rfl, World.grownBy.refl _ _, HX.out.congr fun j hj => if_pos hj⟩
  case round =>
    obtain ⟨k, hk, hkm, rfl, rfl, hg, hrow⟩ := hrel
    by_cases hk0 : k = 0
    · subst hk0
      have hfin := keep (hrow.congr (F' := fun j => max (X j) (lg strs ((bsl text).drop j) : Int)) fun j hj => by rw [if_neg (by omega)])
      clear hrow
      go_wp2_with fail
      go_end0
      exact ⟨rfl, hfin.out, hg⟩
    · obtain ⟨j, rfl⟩ : ∃ j, k = j + 1 := ⟨k - 1, by omega⟩
      rename_i J K hJ hK
      have HJ := keep hJ
      obtain ⟨hr1, hr2, hr3, hr4, hr5⟩ := hR0.out
      have hsame : ∀ q, lo ≤ q → q < hi → wr.heap[q]? = w.heap[q]? := fun q h1 h2 => hg.block q (by omega) (by simp; omega)
      have hA : SetAt wr sb strs tx mb n fb fcap gb gcap eb ecap := ⟨H0.out.trie, H0.out.len, H0.out.mem, H0.out.few, H0.out.str.same (hsame _ hr1.1 hr1.2), H0.out.map.same (hsame _ hr2.1 hr2.2), H0.out.fail.same (hsame _ hr3.1 hr3.2), H0.out.longest.same (hsame _ hr4.1 hr4.2), H0.out.least.same (hsame _ hr5.1 hr5.2)⟩
      have hd := bsl_drop text j (by omega)
      have hst := hA.step text[j] ((bsl text).drop (j + 1))
      rw [← hd] at hst
      have HST := keep hst
      have hmem := lp_mem hA.trie.nil_mem ((bsl text).drop j)
      have hgc := hA.longest.cellD (map_ix hmem _)
      rw [lg_lp hA.mem] at hgc
      have hix := ix_lt hmem
      have hcL := hA.str.cL
      have hlen := hA.len
      have hlgb : lg strs ((bsl text).drop j) ≤ 1048576 := by
        have := lg_le strs ((bsl text).drop j)
        rw [List.length_drop, bsl_len] at this
        omega
      have hxc := hrow.at (j := j) (by omega)
      rw [if_pos (by omega)] at hxc
      have hxf : wr.frozen? ⟨lb', j, none⟩ = false := Row.free hrow j
      have hXj := hXb j
      have Hrow := keep hrow
      clear hst hd hA hsame hrow hmem hXb
      have hjs : ((j + 1 : Nat) : Int) - 1 = (j : Int) := by omega
      rw [hjs]
      clear hjs
      have hjl : j < text.size := by omega
      have hjl' : (j : Int) < (text.size : Int) := by omega
      generalize hS : ix tx (lp tx ((bsl text).drop j)) = S at *
      have HS := keep hS
      clear hS
      generalize hGl : lg strs ((bsl text).drop j) = Gl at *
      have HGl := keep hGl
      clear hGl
      generalize ix tx (lp tx ((bsl text).drop (j + 1))) = S1 at *
      go_wp2_with (go_at_call 58; refine HST.out.mono ?_; rintro e w' ⟨rfl, rfl⟩)
      go_region
      all_goals go_wp2_with fail
      all_goals go_tidy
      all_goals have hJ := HJ.out
      · go_roundg j
        case measure => omega
        case rel =>
          refine ⟨j, by omega, by omega, rfl, by rw [HS.out], hg.trans ((grown_setCell _ _ _).trans (grown_drew _ _)), ?_⟩
          refine Row.drew (IRow.put Hrow.out (i := j) (by omega) _ fun q hq => ?_)
          have hG := HGl.out
          show (if q < j then X q else max (X q) (lg strs ((bsl text).drop q) : Int)) = if q = j then _ else if q < j + 1 then X q else max (X q) (lg strs ((bsl text).drop q) : Int)
          by_cases hqj : q = j
          · subst hqj
            rw [if_neg (by omega), if_pos rfl, hG]
            omega
          · rw [if_neg hqj]
            by_cases hq2 : q < j
            · rw [if_pos hq2, if_pos (by omega)]
            · rw [if_neg hq2, if_neg (by omega)]
      · go_roundg j
        case measure => omega
        case rel =>
          refine ⟨j, by omega, by omega, rfl, by rw [HS.out], hg.trans ((grown_setCell _ _ _).trans (grown_drew _ _)), ?_⟩
          refine Row.drew (IRow.put Hrow.out (i := j) (by omega) _ fun q hq => ?_)
          have hG := HGl.out
          show (if q < j then X q else max (X q) (lg strs ((bsl text).drop q) : Int)) = if q = j then _ else if q < j + 1 then X q else max (X q) (lg strs ((bsl text).drop q) : Int)
          by_cases hqj : q = j
          · subst hqj
            rw [if_neg (by omega), if_pos rfl, hG]
            omega
          · rw [if_neg hqj]
            by_cases hq2 : q < j
            · rw [if_pos hq2, if_pos (by omega)]
            · rw [if_neg hq2, if_neg (by omega)]
end Go.Proofs.Qxb6000411a
