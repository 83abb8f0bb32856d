/-
  The replace-strings made of the sets.
-/
import Derived.Test.Qxb6000411aCopySets
import Derived.Test.Qxb6000411aLaw7t
namespace Go.Proofs.Qxb6000411a
open Go.RowKit Go.Maps Pl
set_option linter.unusedVariables false

theorem SetIs.mono {w : World} {lo hi lo' hi' sb : Nat} {strs : List (List UInt8)} (h : SetIs w lo hi sb strs) (h1 : lo' ≤ lo) (h2 : hi ≤ hi') : SetIs w lo' hi' sb strs := by
  obtain ⟨tx, mb, n, fb, fcap, gb, gcap, eb, ecap, h0, a1, a2, a3, a4, a5⟩ := h
  exact ⟨tx, mb, n, fb, fcap, gb, gcap, eb, ecap, h0, ⟨by omega, by omega⟩, ⟨by omega, by omega⟩, ⟨by omega, by omega⟩, ⟨by omega, by omega⟩, ⟨by omega, by omega⟩⟩

def RsI (w : World) (lo rb cap : Nat) (es : List (Nat × Nat × List (List UInt8))) : Prop :=
  Row w 70 rb cap (es.map fun e => .pointer (some ⟨e.1, 0, none⟩)) ∧ lo ≤ rb ∧
    ∀ e, e ∈ es → lo ≤ e.1 ∧ e.1 < w.heap.size ∧ e.1 ≠ rb ∧ w.cell? ⟨e.1, 1, none⟩ = some (.pointer (some ⟨e.2.1, 0, none⟩)) ∧ ∃ l h, lo ≤ l ∧ h ≤ w.heap.size ∧ (rb < l ∨ h ≤ rb) ∧ SetIs w l h e.2.1 e.2.2
theorem RsI.is {w : World} {lo rb cap : Nat} {es : List (Nat × Nat × List (List UInt8))} (h : RsI w lo rb cap es) : RsIs w lo w.heap.size rb cap es := by
  obtain ⟨h1, h2, h3⟩ := h
  refine ⟨h1, h2, h1.lt, fun e he => ?_⟩
  obtain ⟨k1, k2, _, k3, l, hh, k4, k5, _, k6⟩ := h3 e he
  exact ⟨k1, k2, k3, k6.mono k4 k5⟩
theorem RsI.more {w w' : World} {lo rb cap g' cap' pb sb h1 : Nat} {es : List (Nat × Nat × List (List UInt8))} {strs : List (List UInt8)} (h : RsI w lo rb cap es)
    (hrow : Row w' 70 g' cap' ((es.map fun e => Value.pointer (some ⟨e.1, 0, none⟩)) ++ [.pointer (some ⟨pb, 0, none⟩)])) (hg : g' = rb ∨ pb < g')
    (hsame : ∀ k, k < w.heap.size → k ≠ rb → w'.heap[k]? = w.heap[k]?) (hlo : lo ≤ w.heap.size) (hsz : w.heap.size ≤ w'.heap.size)
    (hset : SetIs w' w.heap.size h1 sb strs) (h1p : h1 ≤ pb) (hwp : w.heap.size ≤ pb) (hpb : pb < w'.heap.size) (hcell : w'.cell? ⟨pb, 1, none⟩ = some (.pointer (some ⟨sb, 0, none⟩))) : RsI w' lo g' cap' (es ++ [(pb, sb, strs)]) := by
  obtain ⟨r1, r2, r3⟩ := h
  have hrl := r1.lt
  refine ⟨by rw [List.map_append]; exact hrow, by omega, fun e he => ?_⟩
  rcases List.mem_append.1 he with he | he
  · obtain ⟨k1, k2, k0, k3, l, hh, k4, k5, k7, k6⟩ := r3 e he
    refine ⟨k1, by omega, by omega, by rw [World.cell?_of_block (hsame _ k2 k0)]; exact k3, l, hh, k4, by omega, by omega, k6.same fun k q1 q2 => hsame k (by omega) (by omega)⟩
  · simp at he
    subst he
    exact ⟨by simp; omega, hpb, by simp; omega, hcell, w.heap.size, h1, hlo, by omega, by omega, hset⟩

set_option maxRecDepth 100000 in
set_option maxHeartbeats 4000000 in
theorem newRs_any (w : World) (ao : Option Addr) (cap : Nat) (ys : List In) (hA : SetsAt w ao ys) (hn : ys.length ≤ 4096) (hm : ∀ y, y ∈ ys → y.2.2.length ≤ 65536 ∧ szs y.2.2 ≤ 1048576) :
    Calls Try.prog 32 #[.slice ao ys.length cap] w fun e w' => ∃ rb c es, e = .returned (.slice (some ⟨rb, 0, none⟩) es.length c) ∧ es.map (·.2.2) = ys.map (fun y => y.2.2.map bsl) ∧ RsIs w' w.heap.size w'.heap.size rb c es ∧ Below w.heap.size w w' := by
  have HA := keep hA
  have Hm := keep hm
  clear hA hm
  obtain ⟨w1, hmk, hr1, hg1⟩ := run_make0 (P := Try.prog) w 55 70 (.pointer none) 8 Try.underlying55 info70 rfl (ys.length : Int) ys.length rfl (by omega) (by unfold maxLen; omega)
  have Hr1 := keep hr1
  have hb1 : Below w.heap.size w w1 := (Below.refl _ _).grown hg1 (Nat.le_refl _) (fun k e => by cases e)
  clear hr1
  go_enter Try.func32, Try.ntmps32
  go_wp2_with fail
  go_loopg [3, 4] ys.length (fun m v i wr => ∃ (k : Nat) (rb c : Nat) (es : List (Nat × Nat × List (List UInt8))), k ≤ ys.length ∧ ys.length - k ≤ m ∧ i = .int .i64 k ∧ es.length = k ∧ v = .slice (some ⟨rb, 0, none⟩) k c ∧ Below w.heap.size w wr ∧ Hid (es.map (·.2.2) = (ys.take k).map (fun y => y.2.2.map bsl) ∧ RsI wr w.heap.size rb c es))
  case atStart => exact ⟨0, w.heap.size, ys.length, [], Nat.zero_le _, Nat.le_refl _, rfl, rfl, rfl, hb1, rfl, Hr1.out, Nat.le_refl _, fun e he => by simp at he⟩
  case round =>
    rename_i J K hJ hK
    have HJ := keep hJ
    clear hJ
    obtain ⟨k, rb, c, es, hk, hkm, rfl, hel, rfl, hb, hh⟩ := hrel
    have Hb := keep hb
    have hbs := hb.size
    clear hb Hr1 hb1 hg1
    by_cases hlt : k < ys.length
    · obtain ⟨zb, rfl, hzb, hc⟩ : ∃ zb, ao = some ⟨zb, 0, none⟩ ∧ zb < w.heap.size ∧ ∀ i (h : i < ys.length), w.cell? ⟨zb, i, none⟩ = some (inV ys[i]) ∧ StrsAt w ys[i].1 ys[i].2.2 := by
        rcases HA.out with rfl | h
        · simp at hlt
        · exact h
      obtain ⟨hck, hst⟩ := hc k hlt
      rw [← Hb.out.cell (p := ⟨zb, k, none⟩) hzb] at hck
      have hm2 := Hm.out _ (List.getElem_mem hlt)
      have cn := keep (new_any ys[k].2.2 ys[k].1 ys[k].2.1 wr (hst.below Hb.out (Nat.le_refl _)) (by have h3 : sumLen (ys[k].2.2.map bsl) ≤ 1048576 := hm2.2; omega) (by omega))
      have hlt' : (k : Int) < (ys.length : Int) := by omega
      have htk : Hid ((ys.take (k + 1)).map (fun y => y.2.2.map bsl) = (ys.take k).map (fun y => y.2.2.map bsl) ++ [ys[k].2.2.map bsl]) := by
        show _ = _
        rw [List.take_succ_eq_append_getElem hlt, List.map_append]
        rfl
      unfold inV at hck
      have hX : ∃ X, X = ys[k] := ⟨_, rfl⟩
      obtain ⟨X, hX⟩ := hX
      rw [← hX] at hck hm2 cn htk
      clear hX hc hst
      obtain ⟨ao2, cap2, ss⟩ := X
      simp only at hck hm2 cn htk
      go_wp2_with fail
      refine cn.out.mono ?_
      rintro e w2 ⟨sb, rfl, hset, hb2⟩
      have hrow2 := hh.out.2.1.same (hb2.block _ hh.out.2.1.lt)
      have Hset := keep hset
      have hb2s := hb2.size
      have Hb2 := keep hb2
      have hrl := hh.out.2.1.lt
      clear hset hb2 cn
      generalize hxs : (es.map fun e => Value.pointer (some ⟨e.1, 0, none⟩)) = xs at hrow2
      have hxl : xs.length = k := by rw [← hxs, List.length_map, hel]
      have Hxs := keep hxs
      have Hrow2 := keep hrow2
      clear hxs hrow2
      go_wp2_with (first
        | (at_builtin; refine wpList_app _ rfl (.tmp 14) (.tmp 22) 55 rfl 70 (.pointer none) 8 Try.underlying55 info70 rfl rb c xs (by rw [hxl]; rfl) ((Hrow2.out.alloc _).alloc _) (w2.heap.size + 1) 1 (.pointer (some ⟨w2.heap.size, 0, none⟩)) rfl (by simp) rfl (by omega) (by unfold maxLen; omega) ?_; intro g3 c3 w3 hp3 hg3 hl3; have Hp3 := keep hp3; have Hg3 := keep hg3; have Hl3 := keep hl3; clear hp3 hg3 hl3; rw [hxl])
        | fail)
      have hJ := HJ.out
      go_roundg (ys.length - (k + 1))
      case measure => omega
      case rel =>
        have hg3 := Hg3.out
        have hl3 := Hl3.out
        rw [World.size_alloc, World.size_alloc] at hl3
        have hz3 := hg3.size
        rw [World.size_alloc, World.size_alloc] at hz3
        have hblk : ∀ q, q < w2.heap.size → q ≠ rb → w3.heap[q]? = w2.heap[q]? := fun q h1 h2 => by
          rw [hg3.block q (by rw [World.size_alloc, World.size_alloc]; omega) (by simpa using h2), Below.heap_alloc _ _ _ (by rw [World.size_alloc]; omega), Below.heap_alloc _ _ _ h1]
        have hb3 : Below w.heap.size w w3 := (((Hb.out.trans (Hb2.out.mono hbs)).alloc (by omega) _).alloc (by rw [World.size_alloc]; omega) _).grown hg3 (by rw [World.size_alloc, World.size_alloc]; omega) (fun q e => by cases e; exact hh.out.2.2.1)
        refine ⟨k + 1, g3, c3, es ++ [(w2.heap.size, sb, ss.map bsl)], hlt, Nat.le_refl _, by go_num, by simp [hel], rfl, hb3, by rw [List.map_append, htk.out, hh.out.1]; rfl, ?_⟩
        refine hh.out.2.more (pb := w2.heap.size) (h1 := w2.heap.size) (by rw [Hxs.out]; exact Hp3.out) (by omega) (fun q h1 h2 => by rw [hblk q (by omega) h2, Hb2.out.block q h1]) hbs (by omega) (Hset.out.same fun q h1 h2 => hblk q h2 (by omega)) (Nat.le_refl _) hb2s (by omega) ?_
        rw [World.cell?_of_block (w := (w2.alloc _).alloc _) (hg3.block w2.heap.size (by rw [World.size_alloc, World.size_alloc]; omega) (by simp; omega))]
        simp
    · obtain rfl : k = ys.length := by omega
      go_wp2_with fail
      go_ret
      exact ⟨rb, c, es, by rw [hel]; rfl, by rw [hh.out.1, List.take_length], hh.out.2.is, Hb.out⟩
end Go.Proofs.Qxb6000411a
