/-
  The law FnSplitPiecesSplitNoFurther: its walk.
-/
import Derived.Test.Qxb6000411aLaw8
namespace Go.Proofs.Qxb6000411a
open Go.RowKit Go.Maps Pl
set_option linter.unusedVariables false

theorem grown_drewN' (w : World) (n : Nat) (r : Option Nat) : w.grownBy (w.drewN n) r := ⟨rfl, rfl, rfl, Nat.le_refl _, fun _ _ _ => rfl⟩
theorem hd10_is : hdG (tlG (bodyOf Try.f10)) (bodyOf Try.f10) = bodyOf Try.f10 := by kernel_rfl

set_option maxRecDepth 100000 in
set_option maxHeartbeats 4000000 in
theorem head10 (c : Code) (w : World) (ao : Option Addr) (cap : Nat) (xs : List In) (text : ByteArray) (hv : SSV w ao xs) (htx : text.size ≤ maxLen) (R : Ending → World → Prop) (hR : R (.returned (.bool true)) w)
    (a : Act) (hF : Fr 92 a) (s0 : sl a 0 = .slice ao xs.length cap) (s1 : sl a 1 = .string text)
    (hK : ∀ a' w' ao' cap' ys, Fr 92 a' → Below w.heap.size w w' → sl a' 0 = .slice ao' ys.length cap' → sl a' 1 = .string text → text.size ≤ 65536 →
      (Calls Try.prog 32 #[.slice ao' ys.length cap'] w' fun e w2 => ∃ rb c es, e = .returned (.slice (some ⟨rb, 0, none⟩) es.length c) ∧ es.map (·.2.2) = ys.map (fun y => y.2.2.map bsl) ∧ RsIs w2 w'.heap.size w2.heap.size rb c es ∧ Below w.heap.size w w2 ∧ SetsAt w2 ao' ys ∧ es.length ≤ 4096) →
      c.wp Try.prog (bodyPost Try.prog Try.f10 R) a' w') :
    Code.wp Try.prog (hdG c (bodyOf Try.f10)) (bodyPost Try.prog Try.f10 R) a w := by
  have hl1 := hv.sc.len
  have c28 := keep (zzBytes36 w ao cap xs text hv.sc htx)
  have c29 := keep (bytesOfSets_any w ao cap xs hv.sc)
  have cm := keep (fun hn hbd => made_any (cap := cap) hv hn hbd)
  have HK := keep hK
  unfold maxLen at hl1 htx
  have e := fr92 hF
  simp only [s0, s1] at e
  rw [e]
  clear e s0 s1 hv hK
  unfold hdG
  conv => arg 2; arg 1; whnf
  conv => arg 2; arg 2; arg 1; whnf
  conv => arg 2; arg 2; arg 2; arg 1; whnf
  conv => arg 2; arg 2; arg 2; arg 2; arg 1; whnf
  conv => arg 2; arg 2; arg 2; arg 2; arg 2; arg 1; whnf
  go_wp2_with fail
  refine c28.out.mono ?_
  rintro e w' ⟨b, rfl, hw⟩
  rw [hw]
  clear hw w'
  cases b with
  | false =>
    go_wp2_with fail
    all_goals exact hR
  | true =>
    by_cases htl : text.size ≤ 1048576
    · have htl' : decide ((1048576 : Int) < (text.size : Int)) = false := by rw [decide_eq_false_iff_not]; omega
      go_wp2_with fail
      refine c29.out.mono ?_
      rintro e w' ⟨r, rfl, hw, hr1, hr2, hr3⟩
      rw [hw]
      clear hw w'
      have Hr3 := keep hr3
      clear hr3
      by_cases hsum : r + (text.size : Int) ≤ 1048576
      · by_cases hn1 : xs.length ≤ 4096
        · have hn1' : decide ((4096 : Int) < (xs.length : Int)) = false := by rw [decide_eq_false_iff_not]; omega
          by_cases hn2 : text.size ≤ 65536
          · have hn2' : decide ((65536 : Int) < (text.size : Int)) = false := by rw [decide_eq_false_iff_not]; omega
            have c30 := keep (cm.out hn1 (Hr3.out (by omega)))
            clear cm Hr3
            go_wp2_with fail
            refine c30.out.mono ?_
            rintro e w1 ⟨ao1, cap1, ys, rfl, hmap, hsets, hb1, hyl, hcs⟩
            clear c30 hmap hsets
            go_wp2_with fail
            exact HK.out _ w1 ao1 cap1 ys ⟨rfl, rfl⟩ hb1 rfl rfl hn2 hcs
          · go_wp2_with fail
            all_goals exact hR
        · go_wp2_with fail
          all_goals exact hR
      · go_wp2_with fail
        all_goals exact hR
    · go_wp2_with fail
      all_goals exact hR


set_option maxRecDepth 100000 in
set_option maxHeartbeats 4000000 in
theorem tail10 (a : Act) (w0 w : World) (R : Ending → World → Prop) (hF : Fr 92 a) (ao : Option Addr) (cap : Nat) (ys : List In) (text : ByteArray) (htl : text.size ≤ 65536)
    (hb : Below w0.heap.size w0 w) (s0 : sl a 0 = .slice ao ys.length cap) (s1 : sl a 1 = .string text)
    (c32 : Calls Try.prog 32 #[.slice ao ys.length cap] w fun e w2 => ∃ rb c es, e = .returned (.slice (some ⟨rb, 0, none⟩) es.length c) ∧ es.map (·.2.2) = ys.map (fun y => y.2.2.map bsl) ∧ RsIs w2 w.heap.size w2.heap.size rb c es ∧ Below w0.heap.size w0 w2 ∧ SetsAt w2 ao ys ∧ es.length ≤ 4096)
    (hR : ∀ w', Below w0.heap.size w0 w' → R (.returned (.bool true)) w') :
    Code.wp Try.prog (tlG (bodyOf Try.f10)) (bodyPost Try.prog Try.f10 R) a w := by
  have C32 := keep c32
  have HR := keep hR
  have e := fr92 hF
  simp only [s0, s1] at e
  rw [e]
  clear e s0 s1 hR c32 hb
  conv => arg 2; whnf
  go_wp2_with fail
  refine C32.out.mono ?_
  rintro e w2 ⟨rb, cp, es, rfl, hem, hrs, hb2, hsets, hel⟩
  have c31 := keep (zzsplit_any text w2 _ _ rb cp es hrs (Nat.le_refl _) (by omega) (by omega))
  have Hb2 := keep hb2
  have Hrs := keep hrs
  clear hem hrs hb2 hsets C32
  go_wp2_with fail
  refine c31.out.mono ?_
  rintro e w3 ⟨ps, g, c, rfl, hrow, hrest, hb3⟩
  have Hrest := keep hrest
  have hpm := hrow.le
  rw [strV_len] at hpm
  have Hrow := keep hrow
  obtain ⟨hpm1, hpm2⟩ := hpm
  unfold maxLen at hpm2
  have Hb3 := keep (Hb2.out.trans (hb3.mono Hb2.out.size))
  have Hb23 := keep hb3
  clear hrest hrow hb3 c31
  go_wp2_with fail
  go_loopg [7] ps.length (fun m i wr => Below w3.heap.size w3 wr ∧ ∃ (k off : Nat), k ≤ ps.length ∧ ps.length - k ≤ m ∧ i = .int .i64 k ∧ Hid (Rest (Lx (allOf es) text) text (k % 2 == 0) off (ps.drop k)))
  case atStart => exact ⟨Below.refl _ _, 0, 0, Nat.zero_le _, Nat.le_refl _, rfl, Hrest.out⟩
  case round =>
    rename_i J K hJ hK
    have HJ := keep hJ
    have HKK := keep hK
    clear hJ hK
    obtain ⟨hbw, k, off, hk, hkm, rfl, hre⟩ := hrel
    have Hbw := keep hbw
    clear hbw
    by_cases hlt : k < ps.length
    · have hlt' : (k : Int) < (ps.length : Int) := by omega
      have hgl : g < w3.heap.size := Hrow.out.lt
      have hrowr : Row wr 9 g c (strV ps) := Hrow.out.same (Hbw.out.block _ hgl)
      have hck : wr.cell? ⟨g, k, none⟩ = some (.string ps[k]) := hrowr.cellD (by simp [strV, hlt])
      have hrsr : RsIs wr w.heap.size w2.heap.size rb cp es := Hrs.out.same fun q h1 h2 => by rw [Hbw.out.block q (Nat.lt_of_lt_of_le h2 Hb23.out.size), Hb23.out.block q h2]
      have hr := hre.out
      rw [List.drop_eq_getElem_cons hlt] at hr
      obtain ⟨r1, r2, r3, r4, r5⟩ := hr.cons
      have cs := keep (zzsplit_any ps[k] wr _ _ rb cp es hrsr (Nat.le_trans Hb23.out.size Hbw.out.size) (by omega) (by omega))
      have hrowk : ∀ w', Below wr.heap.size wr w' → w'.cell? ⟨g, k, none⟩ = some (.string ps[k]) := fun w' hb' => by
        rw [hb'.cell (p := ⟨g, k, none⟩) (Nat.lt_of_lt_of_le hgl Hbw.out.size)]; exact hck
      have Hrk := keep hrowk
      have hev : Hid (k % 2 = 0 → ∀ l, Rest (Lx (allOf es) ps[k]) ps[k] true 0 l → l = [ps[k]]) := fun h2 l hl => again_even (fun q hq => by
        have h5 := r5 (by simp [h2]) (off + q) (by omega) (by omega)
        have h6 := Lx_cut (allOf es) text off (off + ps[k].size) q (by omega)
        rw [← r2] at h6
        omega) hl
      have hod : Hid (k % 2 = 1 → ∀ l, Rest (Lx (allOf es) ps[k]) ps[k] true 0 l → l = [ByteArray.empty, ps[k], ByteArray.empty]) := fun h2 l hl => by
        obtain ⟨h3, h4⟩ := r4 (by simp [h2])
        refine again_odd h3 ?_ hl
        have h7 := taken_again (S := allOf es) (t := text) (off := off) (by omega) (by omega)
        rw [h4, ← r2] at h7
        exact h7
      have hnext : Hid (∃ off', Rest (Lx (allOf es) text) text ((k + 1) % 2 == 0) off' (ps.drop (k + 1))) := ⟨_, by rw [flip2]; exact r3⟩
      clear hr r1 r2 r3 r4 r5 hre hrowr hrsr hrowk
      generalize ps[k] = p at *
      go_wp2_with fail
      refine cs.out.mono ?_
      rintro e w5 ⟨qs, g5, c5, rfl, hrow5, hrest5, hb5⟩
      have hck5 := Hrk.out w5 hb5
      have Hb5 := keep hb5
      have hbn := keep (Hbw.out.trans (hb5.mono Hbw.out.size))
      rcases Nat.mod_two_eq_zero_or_one k with hk2 | hk2
      · obtain rfl := hev.out hk2 _ hrest5
        have hmk : (k : Int).tmod 2 = 0 := tmod2 _ (by omega)
        have hc0 : w5.cell? ⟨g5, 0, none⟩ = some (.string p) := hrow5.cellD rfl
        clear hrow5 hrest5 hb5 cs hck
        go_wp2_with fail
        go_quiet (fail)
        have hK := HKK.out
        go_wp2_with fail
        have hJ := HJ.out
        go_roundg (ps.length - (k + 1))
        case measure => omega
        case rel =>
          obtain ⟨off', ho⟩ := hnext.out
          exact ⟨hbn.out.grown (grown_drewN' _ _ none) hbn.out.size (fun q e => by cases e), k + 1, off', hlt, Nat.le_refl _, by go_num, ho⟩
      · obtain rfl := hod.out hk2 _ hrest5
        have hmk : (k : Int).tmod 2 = 1 := tmod2 _ (by omega)
        have hc0 : w5.cell? ⟨g5, 0, none⟩ = some (.string ⟨#[]⟩) := hrow5.cellD rfl
        have hc1 : w5.cell? ⟨g5, 1, none⟩ = some (.string p) := hrow5.cellD rfl
        have hc2 : w5.cell? ⟨g5, 2, none⟩ = some (.string ⟨#[]⟩) := hrow5.cellD rfl
        clear hrow5 hrest5 hb5 cs hck
        go_wp2_with fail
        go_quiet (fail)
        have hK := HKK.out
        go_wp2_with fail
        have hJ := HJ.out
        go_roundg (ps.length - (k + 1))
        case measure => omega
        case rel =>
          obtain ⟨off', ho⟩ := hnext.out
          exact ⟨hbn.out.grown (grown_drewN' _ _ none) hbn.out.size (fun q e => by cases e), k + 1, off', hlt, Nat.le_refl _, by go_num, ho⟩
    · go_wp2_with fail
      exact HR.out _ (Hb3.out.trans (Hbw.out.mono Hb3.out.size))

theorem law10 (w : World) (ao : Option Addr) (cap : Nat) (xs : List In) (text : ByteArray) (hv : SSV w ao xs) (htx : text.size ≤ maxLen) :
    Calls Try.prog 10 #[.slice ao xs.length cap, .string text] w fun e w' => e = .returned (.bool true) ∧ Below w.heap.size w w' := by
  refine calls_of_wp Try.func10 (c := bodyOf Try.f10) (by kernel_rfl) ?_
  rw [← hd10_is]
  refine head10 _ w ao cap xs text hv htx _ ⟨rfl, Below.refl _ _⟩ _ ⟨by simp [Try.ntmps10], rfl⟩ (by simp [sl, Array.getD]) (by simp [sl, Array.getD]) ?_
  intro a' w' ao' cap' ys hF' hb' s0 s1 b1 c32
  exact tail10 a' w w' _ hF' ao' cap' ys text b1 hb' s0 s1 c32 (fun w2 h2 => ⟨rfl, h2⟩)
end Go.Proofs.Qxb6000411a
