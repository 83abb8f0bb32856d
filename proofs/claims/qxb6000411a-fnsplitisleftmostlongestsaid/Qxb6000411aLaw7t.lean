/-
  The law FnStringSetIndexStableUnderAppend: what follows the copy.
-/
import Derived.Test.Qxb6000411aLaw7
namespace Go.Proofs.Qxb6000411a
open Go.RowKit Go.Maps Pl
set_option linter.unusedVariables false

theorem run_make0 {P : Program} (w : World) (t e : TypeId) (z : Value) (bytes : Nat) (ht : P.underlying t = some (.slice e)) (hi : (P.info? e).map (fun i => (i.zero, i.size, i.bytes)) = some (some z, 1, bytes)) (hz : z.cells = #[z]) (c : Int) (n : Nat) (hc : c = (n : Int)) (hb : bytes * n ≤ 281474976710656) (h63 : n ≤ maxLen) :
    ∃ w', (Instr.makeSlice t (.int .i64 0) (.int .i64 c)).run P w = .ok (.slice (some ⟨w.heap.size, 0, none⟩) 0 n) w' ∧ Row w' e w.heap.size n [] ∧ w.grownBy w' none := by
  subst hc
  obtain ⟨i, hi1, hi2, hi3, hi4⟩ := info_parts hi
  have h63' := h63
  unfold maxLen at h63'
  have hr := run_make (P := P) w t e i z ht hi1 hi2 .i64 .i64 0 (n : Int) (by omega) (by omega) (by rw [hi4, ← Int.natCast_mul]; omega) (by omega)
  rw [hi3, hz] at hr
  simp only [Int.toNat_natCast, Nat.mul_one, Int.toNat_zero] at hr
  have hms : (madeCells #[z] n).size = n := size_madeCells _ _
  have hrow := Row.made0 w e (madeCells #[z] n) (by rw [hms]; exact h63)
  rw [hms] at hrow
  exact ⟨_, hr, hrow, World.grownBy_alloc _ _ _⟩

theorem strV_take {ss : List ByteArray} {k : Nat} (h : k < ss.length) : strV (ss.take (k + 1)) = strV (ss.take k) ++ [.string ss[k]] := by
  unfold strV
  rw [List.take_succ_eq_append_getElem h, List.map_append]
  rfl
theorem szs_append (a b : List ByteArray) : szs (a ++ b) = szs a + szs b := by
  unfold szs
  rw [List.map_append, sumLen_append]

set_option maxRecDepth 100000 in
set_option maxHeartbeats 4000000 in
theorem tail7 (a : Act) (w : World) (R : Ending → World → Prop) (hF : Fr 110 a) (ss ss2 : List ByteArray) (ao ao2 : Option Addr) (cap cap2 : Nat) (text : ByteArray) (hA : StrsAt w ao ss) (hA2 : SC w ao2 ss2)
    (htl : text.size ≤ 1048576) (hn1 : ss.length ≤ 65536) (hn2 : ss2.length ≤ 65536) (hz1 : szs ss ≤ 1048576) (hz2 : szs ss2 ≤ 1048576)
    (s0 : sl a 0 = .slice ao ss.length cap) (s1 : sl a 1 = .slice ao2 ss2.length cap2) (s2 : sl a 2 = .string text)
    (hR : ∀ w', Below w.heap.size w w' → R (.returned (.bool true)) w') :
    Code.wp Try.prog (tlG (bodyOf Try.f7)) (bodyPost Try.prog Try.f7 R) a w := by
  obtain ⟨w1, hmk, hrow1, hg1⟩ := run_make0 (P := Try.prog) w 22 9 (.string ByteArray.empty) 16 Try.underlying22 info9 rfl ((ss.length : Int) + (ss2.length : Int)) (ss.length + ss2.length) (by omega) (by omega) (by unfold maxLen; omega)
  have hb1 : Below w.heap.size w w1 := (Below.refl _ _).grown hg1 (Nat.le_refl _) (fun k e => by cases e)
  have HR := keep hR
  have HA := keep hA
  have HA2 := keep hA2
  have e := fr110 hF
  simp only [s0, s1, s2] at e
  rw [e]
  clear e s0 s1 s2 hR hA hA2 hg1
  conv => arg 2; whnf
  go_wp2_with fail
  go_loopg [8, 9] ss.length (fun m v i wr => ∃ k : Nat, k ≤ ss.length ∧ ss.length - k ≤ m ∧ i = .int .i64 k ∧ Below w.heap.size w wr ∧ ∃ g c, v = .slice (some ⟨g, 0, none⟩) k c ∧ w.heap.size ≤ g ∧ Row wr 9 g c (strV (ss.take k)))
  case atStart => exact ⟨0, Nat.zero_le _, Nat.le_refl _, rfl, hb1, w.heap.size, _, rfl, Nat.le_refl _, hrow1⟩
  case round =>
    obtain ⟨k, hk, hkm, rfl, hbel, g, c, rfl, hgB, hrow⟩ := hrel
    by_cases hlt : k < ss.length
    · obtain ⟨zb, rfl, hzb, hcell⟩ : ∃ zb, ao = some ⟨zb, 0, none⟩ ∧ zb < w.heap.size ∧ ∀ i (h : i < ss.length), w.cell? ⟨zb, i, none⟩ = some (.string ss[i]) := by
        rcases HA.out with h | h
        · subst h; simp at hlt
        · exact h
      have hck : wr.cell? ⟨zb, k, none⟩ = some (.string ss[k]) := by rw [hbel.cell (p := ⟨zb, k, none⟩) hzb]; exact hcell k hlt
      have hlt' : (k : Int) < (ss.length : Int) := by omega
      have hsl : (strV (ss.take k)).length = k := by rw [strV_len, List.length_take]; omega
      have Hsl := keep hsl
      have hwsz : w.heap.size ≤ wr.heap.size := hbel.size
      clear hcell hsl hrow1 hmk
      go_wp2_with (first
        | (at_builtin; refine wpList_app _ rfl (.tmp 61) (.tmp 66) 22 rfl 9 (.string ByteArray.empty) 16 Try.underlying22 info9 rfl g c (strV (ss.take k)) (by rw [Hsl.out]; rfl) (hrow.alloc _) wr.heap.size 1 (.string ss[k]) rfl (by simp) rfl (by rw [Hsl.out]; omega) (by rw [Hsl.out]; unfold maxLen; omega) ?_; intro g2 c2 w2 hp2 hg2 hl2; rw [World.size_alloc] at hl2; rw [Hsl.out])
        | fail)
      go_roundg (ss.length - (k + 1))
      case measure => omega
      case rel =>
        refine ⟨k + 1, hlt, Nat.le_refl _, by go_num, Below.go hbel hg2 hwsz hgB, g2, c2, rfl, by omega, ?_⟩
        rw [strV_take hlt]
        exact hp2
    · obtain rfl : k = ss.length := by omega
      rw [List.take_length] at hrow
      clear hrow1 hmk hb1
      go_wp2_with fail
      obtain ⟨wm, hwm⟩ : ∃ wm : World, wm = wr := ⟨_, rfl⟩
      go_loopg [8, 10] ss2.length (fun m v i wx => ∃ k : Nat, k ≤ ss2.length ∧ ss2.length - k ≤ m ∧ i = .int .i64 k ∧ Below w.heap.size w wx ∧ ∃ g c, v = .slice (some ⟨g, 0, none⟩) (ss.length + k) c ∧ w.heap.size ≤ g ∧ Row wx 9 g c (strV (ss ++ ss2.take k)))
      case atStart => exact ⟨0, Nat.zero_le _, Nat.le_refl _, rfl, hbel, g, c, rfl, hgB, by simpa using hrow⟩
      case round =>
        clear hwm wm hrow hbel hgB
        obtain ⟨k, hk, hkm, rfl, hbel, g, c, rfl, hgB, hrow⟩ := hrel
        by_cases hlt : k < ss2.length
        · obtain ⟨zb, off, rfl, hcell⟩ : ∃ zb off, ao2 = some ⟨zb, off, none⟩ ∧ ∀ i (h : i < ss2.length), w.cell? ⟨zb, off + i, none⟩ = some (.string ss2[i]) := by
            rcases HA2.out with h | h
            · subst h; simp at hlt
            · exact h
          have hck : wr.cell? ⟨zb, off + k, none⟩ = some (.string ss2[k]) := by
            have h1 := hcell k hlt
            rw [hbel.cell (p := ⟨zb, off + k, none⟩) (World.block_lt_of_cell? _ _ h1)]
            exact h1
          have hlt' : (k : Int) < (ss2.length : Int) := by omega
          have hsl : (strV (ss ++ ss2.take k)).length = ss.length + k := by rw [strV_len, List.length_append, List.length_take]; omega
          have Hsl := keep hsl
          have hwsz : w.heap.size ≤ wr.heap.size := hbel.size
          clear hcell hsl
          go_wp2_with (first
            | (at_builtin; refine wpList_app _ rfl (.tmp 74) (.tmp 79) 22 rfl 9 (.string ByteArray.empty) 16 Try.underlying22 info9 rfl g c (strV (ss ++ ss2.take k)) (by rw [Hsl.out]; rfl) (hrow.alloc _) wr.heap.size 1 (.string ss2[k]) rfl (by simp) rfl (by rw [Hsl.out]; omega) (by rw [Hsl.out]; unfold maxLen; omega) ?_; intro g2 c2 w2 hp2 hg2 hl2; rw [World.size_alloc] at hl2; rw [Hsl.out])
            | fail)
          go_roundg (ss2.length - (k + 1))
          case measure => omega
          case rel =>
            refine ⟨k + 1, hlt, Nat.le_refl _, by go_num, Below.go hbel hg2 hwsz hgB, g2, c2, rfl, by omega, ?_⟩
            have e1 : strV (ss ++ ss2.take (k + 1)) = strV (ss ++ ss2.take k) ++ [.string ss2[k]] := by
              unfold strV
              rw [List.take_succ_eq_append_getElem hlt, ← List.append_assoc, List.map_append]
              rfl
            rw [e1]
            exact hp2
        · obtain rfl : k = ss2.length := by omega
          rw [List.take_length] at hrow
          have hA1 := HA.out.below hbel (Nat.le_refl _)
          have cn1 := keep (zznew_any ss ao cap wr hA1 (by omega) (by omega))
          go_wp2_with fail
          refine cn1.out.mono ?_
          rintro e w2 ⟨sb, rfl, hset, hb2⟩
          have ci1 := keep (zzindex_any text w2 _ _ sb _ hset (by unfold maxLen; omega))
          go_wp2_with fail
          refine ci1.out.mono ?_
          rintro e w' ⟨rfl, hw⟩
          rw [hw]
          clear hw w'
          have hrow2 : Row w2 9 g c (strV (ss ++ ss2)) := hrow.same (hb2.block g hrow.lt)
          have hal : (ss ++ ss2).length = ss.length + ss2.length := by simp
          have hsz2 : szs (ss ++ ss2) = szs ss + szs ss2 := szs_append ss ss2
          have cn2 := zznew_any (ss ++ ss2) (some ⟨g, 0, none⟩) c w2 (strsAt_row hrow2) (by omega) (by omega)
          rw [hal] at cn2
          have cn2 := keep cn2
          clear hal hsz2
          go_wp2_with fail
          refine cn2.out.mono ?_
          rintro e w3 ⟨sb3, rfl, hset3, hb3⟩
          have ci2 := keep (zzindex_any text w3 _ _ sb3 _ hset3 (by unfold maxLen; omega))
          go_wp2_with fail
          refine ci2.out.mono ?_
          rintro e w' ⟨rfl, hw⟩
          rw [hw]
          clear hw w'
          have hbf : Below w.heap.size w w3 := (hbel.trans (hb2.mono hbel.size)).trans (hb3.mono (Nat.le_trans hbel.size hb2.size))
          have hap := lb_append (fun s => inf s (bsl text)) (ss.map bsl) (ss2.map bsl)
          rw [← List.map_append] at hap
          have q1 := lb_ge (fun s => inf s (bsl text)) (ss.map bsl)
          have q2 := lb_ge (fun s => inf s (bsl text)) (ss2.map bsl)
          have q3 := lb_lt (fun s => inf s (bsl text)) (ss2.map bsl)
          have q4 := lb_le (fun s => inf s (bsl text)) (ss.map bsl)
          simp only [List.length_map] at hap q3 q4
          clear cn1 cn2 ci1 ci2 hset hset3 hrow hrow2 hA1 HA HA2
          generalize lb (fun s => inf s (bsl text)) ((ss ++ ss2).map bsl) = A at *
          generalize lb (fun s => inf s (bsl text)) (ss.map bsl) = C at *
          generalize lb (fun s => inf s (bsl text)) (ss2.map bsl) = D at *
          by_cases hC : 0 ≤ C
          · rw [if_pos hC] at hap
            subst hap
            go_wp2_with fail
            exact HR.out _ hbf
          · rw [if_neg hC] at hap
            obtain rfl : C = -1 := by omega
            by_cases hD : 0 ≤ D
            · rw [if_pos hD] at hap
              have hA1 : (A == -1) = false := by rw [beq_eq_false_iff_ne]; omega
              have hA2 : (ss.length : Int) ≤ A := by omega
              have hA3 : A < (ss.length : Int) + (ss2.length : Int) := by omega
              have Hap := keep hap
              clear hap
              go_wp2_with fail
              exact HR.out _ hbf
            · rw [if_neg hD] at hap
              subst hap
              go_wp2_with fail
              exact HR.out _ hbf

theorem SC.below {w w' : World} {ao : Option Addr} {ss : List ByteArray} {B : Nat} (h : SC w ao ss) (hb : Below B w w') (hB : w.heap.size ≤ B) : SC w' ao ss := by
  rcases h with h | ⟨b, off, h1, h2⟩
  · exact .inl h
  · refine .inr ⟨b, off, h1, fun i hi => ?_⟩
    have h3 := h2 i hi
    rw [hb.cell (p := ⟨b, off + i, none⟩) (Nat.lt_of_lt_of_le (World.block_lt_of_cell? _ _ h3) hB)]
    exact h3

theorem law7 (w : World) (ao ao2 : Option Addr) (cap cap2 : Nat) (ss ss2 : List ByteArray) (text : ByteArray) (hv : SV w ao ss.length cap ss) (hv2 : SV w ao2 ss2.length cap2 ss2) (htx : text.size ≤ maxLen) :
    Calls Try.prog 7 #[.slice ao ss.length cap, .slice ao2 ss2.length cap2, .string text] w fun e w' => e = .returned (.bool true) ∧ Below w.heap.size w w' := by
  refine calls_of_wp Try.func7 (c := bodyOf Try.f7) (by kernel_rfl) ?_
  rw [← hd7_is]
  refine head7 _ w ao ao2 cap cap2 ss ss2 text hv hv2 htx _ ⟨rfl, Below.refl _ _⟩ _ ⟨by simp [Try.ntmps7], rfl⟩ (by simp [sl, Array.getD]) (by simp [sl, Array.getD]) (by simp [sl, Array.getD]) ?_
  intro a' w' ao' cap' hF' hA' hb' s0 s1 s2 b1 b2 b3 b4 b5
  exact tail7 a' w' _ hF' ss ss2 ao' ao2 cap' cap2 text hA' (hv2.sc.below hb' (Nat.le_refl _)) b1 b2 b3 b4 b5 s0 s1 s2 (fun w2 h2 => ⟨rfl, hb'.trans (h2.mono hb'.size)⟩)
#print axioms law7
end Go.Proofs.Qxb6000411a
