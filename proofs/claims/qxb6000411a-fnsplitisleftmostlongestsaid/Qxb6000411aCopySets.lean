/-
  The whole copy of the sets; the replace-strings made of them.
-/
import Derived.Test.Qxb6000411aSets
import Derived.Test.Qxb6000411aSplit
namespace Go.Proofs.Qxb6000411a
open Go.RowKit Go.Maps Pl
set_option linter.unusedVariables false

theorem info22 : (Try.prog.info? 22).map (fun i => (i.zero, i.size, i.bytes)) = some (some (.slice none 0 0), 1, 24) := by kernel_rfl
theorem info70 : (Try.prog.info? 70).map (fun i => (i.zero, i.size, i.bytes)) = some (some (.pointer none), 1, 8) := by kernel_rfl
theorem run_eql_nil {P : Program} (w : World) (t e : TypeId) (a : Option Addr) (n c n' c' : Nat) (h : P.underlying t = some (.slice e)) :
    (binOp .eql t (.slice a n c) (.slice none n' c')).run P w = .ok (.bool a.isNone) w := by
  simp only [binOp]
  simp [Op.equal, Op.maxDepth, Lib.run_equalIn_slice_nil w 9999 t e a n c n' c' h]

/-- An inner slice of the copy: a row above block g. -/
def Own (w : World) (g : Nat) (y : In) : Prop := y.2.2 = [] ∨ ∃ zb c, y.1 = some ⟨zb, 0, none⟩ ∧ g < zb ∧ Row w 9 zb c (strV y.2.2)
theorem Own.kept {w w' : World} {g : Nat} {y : In} (h : Own w g y) (hg : w.grownBy w' (some g)) : Own w' g y := by
  rcases h with h | ⟨zb, c, h1, h2, h3⟩
  · exact .inl h
  · exact .inr ⟨zb, c, h1, h2, h3.kept hg (by simp; omega)⟩
theorem Own.alone {w w' : World} {g q : Nat} {y : In} (h : Own w g y) (hg : w.grownBy w' (some q)) (hq : w.heap.size ≤ q) : Own w' g y := by
  rcases h with h | ⟨zb, c, h1, h2, h3⟩
  · exact .inl h
  · exact .inr ⟨zb, c, h1, h2, h3.kept hg (by have := h3.lt; simp; omega)⟩

/-- The copy in memory. -/
def SetsAt (w : World) (ao : Option Addr) (ys : List In) : Prop :=
  ys = [] ∨ ∃ zb, ao = some ⟨zb, 0, none⟩ ∧ zb < w.heap.size ∧ ∀ i (h : i < ys.length), w.cell? ⟨zb, i, none⟩ = some (inV ys[i]) ∧ StrsAt w ys[i].1 ys[i].2.2

theorem Own.strsAt {w : World} {g : Nat} {y : In} (h : Own w g y) : StrsAt w y.1 y.2.2 := by
  rcases h with h | ⟨zb, c, h1, h2, h3⟩
  · exact .inl h
  · rw [h1]; exact strsAt_row h3

theorem SC.below {w w' : World} {ao : Option Addr} {ss : List ByteArray} {B : Nat} (h : SC w ao ss) (hb : Below B w w') (hB : w.heap.size ≤ B) : SC w' ao ss := by
  rcases h with h | ⟨b, off, h1, h2⟩
  · exact .inl h
  · refine .inr ⟨b, off, h1, fun i hi => ?_⟩
    have := h2 i hi
    rw [hb.cell (p := ⟨b, off + i, none⟩) (by have := World.block_lt_of_cell? _ _ this; simp at this ⊢; omega)]
    exact this

set_option maxRecDepth 100000 in
set_option maxHeartbeats 4000000 in
theorem copySets_any (w : World) (ao : Option Addr) (cap : Nat) (xs : List In) (hv : SSC w ao xs) (hnil : ao = none → xs = []) (hnil2 : ∀ x, x ∈ xs → x.1 = none → x.2.2 = [] ∧ x.2.1 = 0) (hn : xs.length ≤ 4096) (hm : ∀ x, x ∈ xs → x.2.2.length ≤ 65536) :
    Calls Try.prog 30 #[.slice ao xs.length cap] w fun e w' => ∃ ao' cap' ys, e = .returned (.slice ao' ys.length cap') ∧ ys.map (·.2.2) = xs.map (·.2.2) ∧ SetsAt w' ao' ys ∧ Below w.heap.size w w' := by
  have Hv := keep hv
  have Hm := keep hm
  have Hn2 := keep hnil2
  clear hv hm hnil2
  have heq := fun (w : World) (a : Option Addr) (n c : Nat) => run_eql_nil (P := Try.prog) w 49 22 a n c 0 0 Try.underlying49
  have hneq := fun (w : World) (a : Option Addr) (n c : Nat) => run_neq_slice_nil_any (P := Try.prog) w 22 9 a n c 0 0 Try.underlying22
  have hmk := run_make_row' (P := Try.prog) 49 22 (.slice none 0 0) 24 Try.underlying49 info22 rfl .i64 .i64 xs.length (by omega) (by omega)
  cases ao with
  | none =>
    obtain rfl := hnil rfl
    clear hnil
    go_enter Try.func30, Try.ntmps30
    go_wp2_with fail
    go_ret
    exact ⟨none, 0, [], rfl, rfl, .inl rfl, Below.refl _ _⟩
  | some x =>
    clear hnil
    go_enter Try.func30, Try.ntmps30
    go_wp2_with fail
    have hms : (madeCells #[Value.slice none 0 0] xs.length).size = xs.length := size_madeCells _ _
    have hrw := Row.made w 22 (madeCells #[Value.slice none 0 0] xs.length) (by rw [hms]; unfold maxLen; omega)
    rw [toList_madeCells_one, hms] at hrw
    have Hrw := keep hrw
    clear hrw hms hmk heq
    go_loopg [4] xs.length (fun m i wr => ∃ k : Nat, k ≤ xs.length ∧ xs.length - k ≤ m ∧ i = .int .i64 k ∧ Below w.heap.size w wr ∧ Hid (∃ ys : List In, ys.length = k ∧ ys.map (·.2.2) = (xs.take k).map (·.2.2) ∧ Row wr 22 w.heap.size xs.length (ys.map inV ++ List.replicate (xs.length - k) (.slice none 0 0)) ∧ ∀ y, y ∈ ys → Own wr w.heap.size y))
    case atStart => exact ⟨0, Nat.zero_le _, Nat.le_refl _, rfl, (Below.refl _ _).alloc (Nat.le_refl _) _, ⟨[], rfl, rfl, Hrw.out, fun y hy => by simp at hy⟩⟩
    case round =>
      rename_i J K hJ hK
      have HJ := keep hJ
      clear hJ
      obtain ⟨k, hk, hkm, rfl, hb, hh⟩ := hrel
      have Hb := keep hb
      have hbs := hb.size
      clear hb Hrw
      by_cases hlt : k < xs.length
      · obtain ⟨b, off, hxa, hc⟩ : ∃ b off, some x = some ⟨b, off, none⟩ ∧ ∀ i (h : i < xs.length), w.cell? ⟨b, off + i, none⟩ = some (inV xs[i]) := by
          rcases Hv.out.cells with rfl | h
          · simp at hlt
          · exact h
        obtain rfl : x = ⟨b, off, none⟩ := by simpa using hxa
        have hck := hc k hlt
        have hbl := World.block_lt_of_cell? _ _ hck
        rw [← Hb.out.cell (p := ⟨b, off + k, none⟩) hbl] at hck
        have hin := Hv.out.inn _ (List.getElem_mem hlt)
        have hm2 := Hm.out _ (List.getElem_mem hlt)
        have hn2 := keep (Hn2.out _ (List.getElem_mem hlt))
        have hsc := hin.1.below Hb.out (Nat.le_refl _)
        have hlt' : (k : Int) < (xs.length : Int) := by omega
        have htk : Hid ((xs.take (k + 1)).map (·.2.2) = (xs.take k).map (·.2.2) ++ [xs[k].2.2]) := by
          show _ = _
          rw [List.take_succ_eq_append_getElem hlt, List.map_append]
          rfl
        unfold inV at hck
        have hX : ∃ X, X = xs[k] := ⟨_, rfl⟩
        obtain ⟨X, hX⟩ := hX
        rw [← hX] at hck hin hm2 hn2 hsc htk
        clear hX hc hxa hin
        obtain ⟨ao2, cap2, ss⟩ := X
        simp only at hck hm2 hn2 hsc htk
        cases ao2 with
        | none =>
          obtain ⟨rfl, rfl⟩ := hn2.out rfl
          clear hsc
          go_wp2_with fail
          have hJ := HJ.out
          go_roundg (xs.length - (k + 1))
          case measure => omega
          case rel =>
            refine ⟨k + 1, hlt, Nat.le_refl _, by go_num, Hb.out, ?_⟩
            obtain ⟨ys, y1, y2, y3, y4⟩ := hh.out
            refine ⟨ys ++ [(none, 0, [])], by simp [y1], by rw [htk.out, ← y2]; simp, ?_, ?_⟩
            · have he : List.replicate (xs.length - k) (Value.slice none 0 0) = inV (none, 0, []) :: List.replicate (xs.length - (k + 1)) (.slice none 0 0) := by
                rw [show xs.length - k = (xs.length - (k + 1)) + 1 by omega, List.replicate_succ]
                rfl
              rw [he] at y3
              simpa using y3
            · intro y hy
              rcases List.mem_append.1 hy with h | h
              · exact y4 y h
              · simp at h; subst h; exact .inl rfl
        | some z2 =>
          have hmk := run_make_row' (P := Try.prog) 22 9 (.string ByteArray.empty) 16 Try.underlying22 info9 rfl .i64 .i64 ss.length (by omega) (by omega)
          have hms : (madeCells #[Value.string ByteArray.empty] ss.length).size = ss.length := size_madeCells _ _
          have hrw := Row.made wr 9 (madeCells #[.string ByteArray.empty] ss.length) (by rw [hms]; unfold maxLen; omega)
          rw [toList_madeCells_one, hms] at hrw
          have hrl : (List.replicate ss.length (Value.string ByteArray.empty)).length = ss.length := by simp
          have Hsc := keep (hsc.alloc (.cells (madeCells #[.string ByteArray.empty] ss.length) 9))
          obtain ⟨w1, hcp, hr1, hg1⟩ := run_copyRow (P := Try.prog) 22 22 3 9 Try.underlying22 size9 wr.heap.size ss.length _ (strV ss) hrw (some z2) cap2 ss.length hrl (strV_len ss) Hsc.out.src (strV_one ss)
          have hgr : wr.grownBy w1 (some wr.heap.size) := (World.grownBy_alloc wr _ (some wr.heap.size)).trans hg1
          have hb1 : Below w.heap.size w w1 := Hb.out.grown hgr hbs (fun k e => by cases e; exact hbs)
          obtain ⟨ys, y1, y2, y3, y4⟩ := hh.out
          have hgl : w.heap.size < wr.heap.size := y3.lt
          have y3' := y3.kept hgr (by simp; omega)
          have hfz : w1.frozen? ⟨w.heap.size, k, none⟩ = false := y3'.free k
          have hcx : w1.cell? ⟨w.heap.size, k, none⟩ = some (.slice none 0 0) := y3'.cellD (by
            rw [List.getElem?_append_right (by simp [y1]), List.getElem?_replicate]
            simp [y1]; omega)
          have hckA : (wr.alloc (.cells (madeCells #[.string ByteArray.empty] ss.length) 9)).cell? ⟨b, off + k, none⟩ = some (.slice (some z2) ss.length cap2) := by
            rw [World.cell?_alloc_lt _ _ _ (by simp at hbl ⊢; omega)]; exact hck
          have Hy := keep (And.intro y1 (And.intro y2 (And.intro y3' y4)))
          have Hr1 := keep hr1
          clear hrl hsc hms Hsc hrw y1 y2 y3 y3' y4 hh hr1
          go_wp2_with fail
          have hJ := HJ.out
          go_roundg (xs.length - (k + 1))
          case measure => omega
          case rel =>
            obtain ⟨y1, y2, y3, y4⟩ := Hy.out
            have hgs := grown_setCell w1 ⟨w.heap.size, k, none⟩ (Value.slice (some ⟨wr.heap.size, 0, none⟩) ss.length ss.length)
            refine ⟨k + 1, hlt, Nat.le_refl _, by go_num, hb1.grown hgs hb1.size (fun q e => by cases e; exact Nat.le_refl _), ?_⟩
            refine ⟨ys ++ [(some ⟨wr.heap.size, 0, none⟩, ss.length, ss)], by simp [y1], by rw [htk.out, ← y2]; simp, ?_, ?_⟩
            · have he : List.replicate (xs.length - k) (Value.slice none 0 0) = Value.slice none 0 0 :: List.replicate (xs.length - (k + 1)) (.slice none 0 0) := by
                rw [show xs.length - k = (xs.length - (k + 1)) + 1 by omega, List.replicate_succ]
              rw [he] at y3
              have y5 := y3.set k (Value.slice (some ⟨wr.heap.size, 0, none⟩) ss.length ss.length)
              have hkl : k = (ys.map inV).length := by simp [y1]
              rw [show (ys.map inV ++ Value.slice none 0 0 :: List.replicate (xs.length - (k + 1)) (.slice none 0 0)).set k (Value.slice (some ⟨wr.heap.size, 0, none⟩) ss.length ss.length) = ys.map inV ++ Value.slice (some ⟨wr.heap.size, 0, none⟩) ss.length ss.length :: List.replicate (xs.length - (k + 1)) (.slice none 0 0) from by
                rw [List.set_append_right _ _ (by omega), show k - (ys.map inV).length = 0 by omega, List.set_cons_zero]] at y5
              rw [List.map_append, List.append_assoc]
              exact y5
            · intro y hy
              rcases List.mem_append.1 hy with h | h
              · exact ((y4 y h).alone hgr (Nat.le_refl _)).kept hgs
              · simp at h
                subst h
                exact .inr ⟨wr.heap.size, ss.length, rfl, hgl, Hr1.out.kept hgs (by simp; omega)⟩
      · obtain rfl : k = xs.length := by omega
        go_wp2_with fail
        go_ret
        obtain ⟨ys, y1, y2, y3, y4⟩ := hh.out
        refine ⟨some ⟨w.heap.size, 0, none⟩, xs.length, ys, by rw [y1]; rfl, by rw [y2, List.take_length], .inr ⟨w.heap.size, rfl, y3.lt, fun i hi => ⟨y3.cellD (by rw [List.getElem?_append_left (by simpa using hi)]; simp [hi]), (y4 _ (List.getElem_mem hi)).strsAt⟩⟩, Hb.out⟩
end Go.Proofs.Qxb6000411a
