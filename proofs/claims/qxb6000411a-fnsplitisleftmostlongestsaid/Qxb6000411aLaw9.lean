/-
  The law FnSplitIsLeftmostLongest: its walk.
-/
import Derived.Test.Qxb6000411aSets9
namespace Go.Proofs.Qxb6000411a
open Go.RowKit Go.Maps Pl
set_option linter.unusedVariables false

theorem SetsAt.below {w w' : World} {ao : Option Addr} {ys : List In} {B : Nat} (h : SetsAt w ao ys) (hb : Below B w w') (hB : w.heap.size ≤ B) : SetsAt w' ao ys := by
  rcases h with h | ⟨zb, h1, h2, h3⟩
  · exact .inl h
  · refine .inr ⟨zb, h1, Nat.lt_of_lt_of_le h2 hb.size, fun i hi => ⟨?_, (h3 i hi).2.below hb hB⟩⟩
    rw [hb.cell (p := ⟨zb, i, none⟩) (by simp; omega)]
    exact (h3 i hi).1
theorem hd9_is : hdG (tlG (bodyOf Try.f9)) (bodyOf Try.f9) = bodyOf Try.f9 := by kernel_rfl

set_option maxRecDepth 100000 in
set_option maxHeartbeats 4000000 in
theorem head9 (c : Code) (w : World) (ao : Option Addr) (cap : Nat) (xs : List In) (text : ByteArray) (hv : SSV w ao xs) (htx : text.size ≤ maxLen) (R : Ending → World → Prop) (hR : R (.returned (.bool true)) w)
    (a : Act) (hF : Fr 115 a) (s0 : sl a 0 = .slice ao xs.length cap) (s1 : sl a 1 = .string text)
    (hK : ∀ a' w' ao' cap' ys, Fr 115 a' → Below w.heap.size w w' → sl a' 0 = .slice ao' ys.length cap' → sl a' 1 = .string text → text.size ≤ 4096 → ys.length ≤ 4096 → (∀ y, y ∈ ys → y.2.2.length ≤ 65536 ∧ szs y.2.2 ≤ 1048576) →
      (Calls Try.prog 32 #[.slice ao' ys.length cap'] w' fun e w2 => ∃ rb c es, e = .returned (.slice (some ⟨rb, 0, none⟩) es.length c) ∧ es.map (·.2.2) = ys.map (fun y => y.2.2.map bsl) ∧ RsIs w2 w'.heap.size w2.heap.size rb c es ∧ Below w.heap.size w w2 ∧ SetsAt w2 ao' ys ∧ es.length ≤ 4096) →
      c.wp Try.prog (bodyPost Try.prog Try.f9 R) a' w') :
    Code.wp Try.prog (hdG c (bodyOf Try.f9)) (bodyPost Try.prog Try.f9 R) a w := by
  have hl1 := hv.sc.len
  have c28 := keep (zzBytes33 w ao cap xs text hv.sc htx)
  have c29 := keep (bytesOfSets_any w ao cap xs hv.sc)
  have c34 := keep (countsAndLens_any w ao cap xs hv.sc)
  have cm := keep (fun hn hbd => made_any (cap := cap) hv hn hbd)
  have HK := keep hK
  unfold maxLen at hl1 htx
  have e := fr115 hF
  simp only [s0, s1] at e
  rw [e]
  clear e s0 s1 hv hK
  unfold hdG
  conv => arg 2; arg 1; whnf
  conv => arg 2; arg 2; arg 1; whnf
  conv => arg 2; arg 2; arg 2; arg 1; whnf
  conv => arg 2; arg 2; arg 2; arg 2; arg 1; whnf
  conv => arg 2; arg 2; arg 2; arg 2; arg 2; arg 1; whnf
  go_wp2_with fail
  refine c28.out.mono ?_
  rintro e w' ⟨b, rfl, hw⟩
  rw [hw]
  clear hw w'
  cases b with
  | false =>
    go_wp2_with fail
    all_goals exact hR
  | true =>
    by_cases htl : text.size ≤ 1048576
    · have htl' : decide ((1048576 : Int) < (text.size : Int)) = false := by rw [decide_eq_false_iff_not]; omega
      go_wp2_with fail
      refine c29.out.mono ?_
      rintro e w' ⟨r, rfl, hw, hr1, hr2, hr3⟩
      rw [hw]
      clear hw w'
      have Hr3 := keep hr3
      clear hr3
      by_cases hsum : r + (text.size : Int) ≤ 1048576
      · by_cases hn1 : xs.length ≤ 4096
        · have hn1' : decide ((4096 : Int) < (xs.length : Int)) = false := by rw [decide_eq_false_iff_not]; omega
          by_cases hn2 : text.size ≤ 4096
          · have hn2' : decide ((4096 : Int) < (text.size : Int)) = false := by rw [decide_eq_false_iff_not]; omega
            have c30 := keep (cm.out hn1 (Hr3.out (by omega)))
            have Hbd := keep (Hr3.out (by omega))
            clear cm Hr3
            go_wp2_with fail
            refine c34.out.mono ?_
            rintro e w' ⟨r2, rfl, hw⟩
            rw [hw]
            clear hw w'
            by_cases hr2c : r2 ≤ 4096
            · go_wp2_with fail
              refine c30.out.mono ?_
              rintro e w1 ⟨ao1, cap1, ys, rfl, hmap, hsets, hb1, hyl, hcs⟩
              have hbo := keep (bounds_of hmap Hbd.out)
              clear c30 hmap hsets
              go_wp2_with fail
              exact HK.out _ w1 ao1 cap1 ys ⟨rfl, rfl⟩ hb1 rfl rfl hn2 hyl hbo.out hcs
            · go_wp2_with fail
              all_goals exact hR
          · go_wp2_with fail
            all_goals exact hR
        · go_wp2_with fail
          all_goals exact hR
      · go_wp2_with fail
        all_goals exact hR
    · go_wp2_with fail
      all_goals exact hR


set_option maxRecDepth 100000 in
set_option maxHeartbeats 4000000 in
theorem tail9 (a : Act) (w0 w : World) (R : Ending → World → Prop) (hF : Fr 115 a) (ao : Option Addr) (cap : Nat) (ys : List In) (text : ByteArray) (htl : text.size ≤ 4096) (hyl : ys.length ≤ 4096) (hbo : ∀ y, y ∈ ys → y.2.2.length ≤ 65536 ∧ szs y.2.2 ≤ 1048576)
    (hb : Below w0.heap.size w0 w) (s0 : sl a 0 = .slice ao ys.length cap) (s1 : sl a 1 = .string text)
    (c32 : Calls Try.prog 32 #[.slice ao ys.length cap] w fun e w2 => ∃ rb c es, e = .returned (.slice (some ⟨rb, 0, none⟩) es.length c) ∧ es.map (·.2.2) = ys.map (fun y => y.2.2.map bsl) ∧ RsIs w2 w.heap.size w2.heap.size rb c es ∧ Below w0.heap.size w0 w2 ∧ SetsAt w2 ao ys ∧ es.length ≤ 4096)
    (hR : ∀ w', Below w0.heap.size w0 w' → R (.returned (.bool true)) w') :
    Code.wp Try.prog (tlG (bodyOf Try.f9)) (bodyPost Try.prog Try.f9 R) a w := by
  have C32 := keep c32
  have HR := keep hR
  have Hbo := keep hbo
  have e := fr115 hF
  simp only [s0, s1] at e
  rw [e]
  clear e s0 s1 hR c32 hb hbo
  conv => arg 2; whnf
  go_wp2_with fail
  refine C32.out.mono ?_
  rintro e w2 ⟨rb, cp, es, rfl, hem, hrs, hb2, hsets, hel⟩
  have c31 := keep (zzsplit_any text w2 _ _ rb cp es hrs (Nat.le_refl _) (by omega) (by omega))
  rw [allOf_eq hem] at c31
  have Hb2 := keep hb2
  have Hsets := keep hsets
  clear hem hrs hb2 hsets C32
  go_wp2_with fail
  refine c31.out.mono ?_
  rintro e w3 ⟨ps, g, c, rfl, hrow, hrest, hb3⟩
  have hodd := hrest.odd
  have Hrest := keep hrest
  have hpm := hrow.le
  rw [strV_len] at hpm
  have Hrow := keep hrow
  obtain ⟨hpm1, hpm2⟩ := hpm
  unfold maxLen at hpm2
  simp only [if_true] at hodd
  have hmod : (ps.length : Int).tmod 2 = 1 := tmod2 _ (by omega)
  have cl := keep (fun s hs => longestAt_any s w3 ao cap ys (Hsets.out.below hb3 (Nat.le_refl _)) hs hyl Hbo.out)
  have Hb3 := keep (Hb2.out.trans (hb3.mono Hb2.out.size))
  clear hrest hrow hb3 Hb2 c31 Hsets
  go_wp2_with fail
  go_loopg [6, 7] ps.length (fun m o i wr => wr = w3 ∧ ∃ (k off : Nat), k ≤ ps.length ∧ ps.length - k ≤ m ∧ i = .int .i64 k ∧ o = .int .i64 off ∧ Hid (Rest (Lx (allY ys) text) text (k % 2 == 0) off (ps.drop k)))
  case atStart => exact ⟨rfl, 0, 0, Nat.zero_le _, Nat.le_refl _, rfl, rfl, Hrest.out⟩
  case round =>
    rename_i J K hJ hK
    have HJ := keep hJ
    have HKK := keep hK
    clear hJ hK
    obtain ⟨rfl, k, off, hk, hkm, rfl, rfl, hre⟩ := hrel
    by_cases hlt : k < ps.length
    · have hlt' : (k : Int) < (ps.length : Int) := by omega
      have hck : wr.cell? ⟨g, k, none⟩ = some (.string ps[k]) := Hrow.out.cellD (by simp [strV, hlt])
      have hr := hre.out
      rw [List.drop_eq_getElem_cons hlt] at hr
      obtain ⟨r1, r2, r3, r4, r5⟩ := hr.cons
      generalize ps[k] = p at *
      have R3 := keep r3
      have R4 := keep r4
      have R5 := keep r5
      have R2 := keep r2.symm
      have hd0 : decide ((text.size : Int) - (off : Int) < (p.size : Int)) = false := by rw [decide_eq_false_iff_not]; omega
      have hse : ((text.extract off (off + p.size)).toList == p.toList) = true := by rw [R2.out]; exact beq_self_eq_true _
      have hof : (off : Int) ≤ (text.size : Int) := by omega
      clear hr r2 r3 r4 r5 hre
      rcases Nat.mod_two_eq_zero_or_one k with hk2 | hk2
      · have hmk : (k : Int).tmod 2 = 0 := tmod2 _ (by omega)
        go_wp2_with fail
        go_loopg [9] p.size (fun m i wx => wx = wr ∧ ∃ q : Nat, off ≤ q ∧ q ≤ off + p.size ∧ off + p.size - q ≤ m ∧ i = .int .i64 q)
        case atStart => exact ⟨rfl, off, Nat.le_refl _, by omega, by omega, rfl⟩
        case round =>
          rename_i J2 K2 hJ2 hK2
          have HJ2 := keep hJ2
          have HK2 := keep hK2
          clear hJ2 hK2
          obtain ⟨rfl, q, hq1, hq2, hqm, rfl⟩ := hrel
          by_cases hql : q < off + p.size
          · have hql' : (q : Int) < (off : Int) + (p.size : Int) := by omega
            have hqt : (q : Int) ≤ (text.size : Int) := by omega
            have hz := R5.out (by simp [hk2]) q hq1 hql
            have cl2 := keep (cl.out (text.extract q text.size) (by rw [ByteArray.size_extract]; omega))
            rw [show lg (allY ys) (bsl (text.extract q text.size)) = 0 from by rw [bsl_extract, List.take_of_length_le (by simp [bsl_len])]; exact hz] at cl2
            clear hz
            have hK2 := HK2.out
            go_wp2_with fail
            refine cl2.out.mono ?_
            rintro e w' ⟨rfl, hw⟩
            rw [hw]
            clear hw w'
            go_wp2_with fail
            have hJ2 := HJ2.out
            go_roundg (off + p.size - (q + 1))
            case measure => omega
            case rel => exact ⟨rfl, q + 1, by omega, by omega, by omega, by go_num⟩
          · obtain rfl : q = off + p.size := by omega
            have hK := HKK.out
            have hnl : decide (((off + p.size : Nat) : Int) < (off : Int) + (p.size : Int)) = false := by rw [decide_eq_false_iff_not]; omega
            go_wp2_with fail
            have hJ := HJ.out
            go_roundg (ps.length - (k + 1))
            case measure => omega
            case rel => exact ⟨rfl, k + 1, off + p.size, hlt, Nat.le_refl _, by go_num, by go_num, by rw [flip2]; exact R3.out⟩
      · have hmk : (k : Int).tmod 2 = 1 := tmod2 _ (by omega)
        obtain ⟨hp1, hp2⟩ := R4.out (by simp [hk2])
        have hp0 : ((p.size : Int) == 0) = false := by rw [beq_eq_false_iff_ne]; omega
        have cl2 := keep (cl.out (text.extract off text.size) (by rw [ByteArray.size_extract]; omega))
        rw [show lg (allY ys) (bsl (text.extract off text.size)) = p.size from by rw [bsl_extract, List.take_of_length_le (by simp [bsl_len])]; exact hp2] at cl2
        clear hp2
        go_wp2_with fail
        refine cl2.out.mono ?_
        rintro e w' ⟨rfl, hw⟩
        rw [hw]
        clear hw w'
        have hK := HKK.out
        go_wp2_with fail
        have hJ := HJ.out
        go_roundg (ps.length - (k + 1))
        case measure => omega
        case rel => exact ⟨rfl, k + 1, off + p.size, hlt, Nat.le_refl _, by go_num, by go_num, by rw [flip2]; exact R3.out⟩
    · obtain rfl : k = ps.length := by omega
      have hoff := hre.out
      rw [List.drop_of_length_le (Nat.le_refl _)] at hoff
      obtain rfl := hoff.nil
      go_wp2_with fail
      exact HR.out _ Hb3.out

theorem law9 (w : World) (ao : Option Addr) (cap : Nat) (xs : List In) (text : ByteArray) (hv : SSV w ao xs) (htx : text.size ≤ maxLen) :
    Calls Try.prog 9 #[.slice ao xs.length cap, .string text] w fun e w' => e = .returned (.bool true) ∧ Below w.heap.size w w' := by
  refine calls_of_wp Try.func9 (c := bodyOf Try.f9) (by kernel_rfl) ?_
  rw [← hd9_is]
  refine head9 _ w ao cap xs text hv htx _ ⟨rfl, Below.refl _ _⟩ _ ⟨by simp [Try.ntmps9], rfl⟩ (by simp [sl, Array.getD]) (by simp [sl, Array.getD]) ?_
  intro a' w' ao' cap' ys hF' hb' s0 s1 b1 b2 b3 c32
  exact tail9 a' w w' _ hF' ao' cap' ys text b1 b2 b3 hb' s0 s1 c32 (fun w2 h2 => ⟨rfl, h2⟩)
end Go.Proofs.Qxb6000411a
