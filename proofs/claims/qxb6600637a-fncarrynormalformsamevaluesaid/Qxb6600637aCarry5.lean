/-
  'carry': the first loop; the whole function.
-/
import Derived.Test.Qxb6600637aCarry4
namespace Go.Proofs.Qxb6600637a
open Go.RowKit Go.Maps
set_option linter.unusedVariables false

set_option maxRecDepth 100000 in
set_option maxHeartbeats 4000000 in
theorem loop1 (c : Code) (Q : Exit → Act → World → Prop) (w : World) (a : Act) (hF : Fr 137 a) (lo sb g cap n : Nat) (cur : Array Value) (l : List Int) (f t : Int) (hn : n = l.length) (hlen : n ≤ 65536) (hpos : 0 < n) (hf : 0 ≤ f) (hff : f ≤ 9223372036854775807)
    (hrow : IR w g cap l) (hbox : Box w sb cur) (hcs : w.cell? ⟨sb, 0, none⟩ = some (.slice (some ⟨g, 0, none⟩) n cap)) (hne : g ≠ sb) (hlo1 : lo ≤ g) (hlo2 : lo ≤ sb) (hpr : Prem l f t)
    (s0 : sl a 0 = .pointer (some ⟨sb, 0, none⟩)) (s1 : sl a 1 = .int .i64 f) (s2 : sl a 2 = .int .i64 t)
    (hK : ∀ a' w' L', Fr 137 a' → n = List.length L' → IR w' g cap L' → Box w' sb cur → Below lo w w' → Mid l L' →
      sl a' 0 = .pointer (some ⟨sb, 0, none⟩) → sl a' 6 = .slice (some ⟨g, 0, none⟩) n cap → sl a' 7 = .int .i64 ((n : Int) - 1) → c.wp Try.prog Q a' w') :
    Code.wp Try.prog (.seq (cl (bodyOf Try.f34)) (.seq (cl (cr (bodyOf Try.f34))) (.seq (cl (cr (cr (bodyOf Try.f34)))) c))) Q a w := by
  have HKK := keep hK
  have Hpr := keep hpr
  have Hn := keep hn
  have H0 := keep (show IR w g cap l ∧ Box w sb cur ∧ Below lo w w ∧ Q1 l l f from ⟨hrow, hbox, Below.refl _ _, Q1.start hpr⟩)
  have e := fr137 hF
  simp only [s0, s1, s2] at e
  rw [e]
  clear e s0 s1 s2 hrow hbox hF hK hpr hn
  conv => arg 2; arg 1; whnf
  conv => arg 2; arg 2; arg 1; whnf
  conv => arg 2; arg 2; arg 2; arg 1; whnf
  go_wp2_with fail
  go_loopg [8] n (fun m i wr => ∃ (z : Int) (M : List Int), i = .int .i64 z ∧ 0 ≤ z ∧ z ≤ 9223372036854775807 ∧ M.length = n ∧ n - z.toNat ≤ m ∧ Hid (IR wr g cap M ∧ Box wr sb cur ∧ Below lo w wr ∧ Q1 l M z))
  case atStart => exact ⟨f, l, rfl, hf, hff, Hn.out.symm, by omega, H0.out⟩
  case round =>
    rename_i J K hJ hK
    have HJ := keep hJ
    have HK := keep hK
    clear hJ hK H0 hf hff hcs
    obtain ⟨z, M, rfl, hz0, hz1, hM, hmm, HH⟩ := hrel
    obtain ⟨hrow, hbox, hbel, hq⟩ := HH.out
    clear HH
    by_cases hlt : z < (n : Int) - 1
    · obtain ⟨k, rfl⟩ := Int.eq_ofNat_of_zero_le hz0
      have hkn : k + 1 < n := by omega
      have hc := hrow.at (i := k) (by omega)
      have hc1 := hrow.at (i := k + 1) (by omega)
      have hfr := hrow.free k
      have hfr1 := hrow.free (k + 1)
      have hput := hrow.put k (M.getD k 0 - M.getD k 0 / 4294967296 * 4294967296)
      have hput2 := hput.put (k + 1) (M.getD (k + 1) 0 + M.getD k 0 / 4294967296)
      have hcc := hput.at (i := k + 1) (by simp; omega)
      rw [gset _ _ _ _ (by omega), if_neg (by omega)] at hcc
      have hfc := hput.free (k + 1)
      have hbd := hq.2.2.2.2 k
      have hbd1 := prem_all Hpr.out (k + 1)
      rw [← hq.2.2.2.1 (k + 1) (by omega)] at hbd1
      have Hstep := keep (Q1.step Hpr.out hq (by have := Hn.out; omega))
      have Hbrk := keep (fun h1 h2 => Q1.brk (k := k) Hpr.out hq (by have := Hn.out; omega) h1 h2)
      have Hrow := keep hrow
      have Hput2 := keep hput2
      have Hbox := keep hbox
      have Hbel := keep hbel
      clear hrow hbox hbel hq hput hput2
      generalize M.getD k 0 = x at hc hcc hfc hbd Hstep Hbrk Hput2
      generalize M.getD (k + 1) 0 = y at hc1 hcc hbd1 Hstep Hput2
      obtain ⟨hb1, hb2⟩ := hbd
      obtain ⟨hb3, hb4⟩ := hbd1
      by_cases hbk : x / 4294967296 = 0 ∧ t ≤ (k : Int)
      · obtain ⟨h1, h2⟩ := hbk
        have hmid := keep (Hbrk.out h1 h2)
        clear Hbrk Hstep Hput2
        go_wp2_with fail
        exact HKK.out _ wr M ⟨rfl, rfl⟩ hM.symm Hrow.out Hbox.out Hbel.out hmid.out rfl rfl rfl
      · clear Hbrk
        by_cases hx0 : x / 4294967296 = 0
        · have ht' : (decide (t ≤ (k : Int))) = false := by rw [decide_eq_false_iff_not]; omega
          have F := keep (show IR ((wr.setCell ⟨g, k, none⟩ (.int .i64 x)).setCell ⟨g, k + 1, none⟩ (.int .i64 y)) g cap ((M.set k x).set (k + 1) y) ∧ Box ((wr.setCell ⟨g, k, none⟩ (.int .i64 x)).setCell ⟨g, k + 1, none⟩ (.int .i64 y)) sb cur ∧ Below lo w ((wr.setCell ⟨g, k, none⟩ (.int .i64 x)).setCell ⟨g, k + 1, none⟩ (.int .i64 y)) ∧ Q1 l ((M.set k x).set (k + 1) y) ((k : Int) + 1) from by
            have h1 := Hput2.out
            have h2 := Hstep.out
            rw [hx0, Int.zero_mul, Int.sub_zero, Int.add_zero] at h1 h2
            exact ⟨h1, Hbox.out.same (by rw [Below.heap_setCell _ _ _ _ (Ne.symm hne), Below.heap_setCell _ _ _ _ (Ne.symm hne)]), (Hbel.out.setCell (p := ⟨g, k, none⟩) hlo1 _).setCell (p := ⟨g, k + 1, none⟩) hlo1 _, h2⟩)
          rw [hx0, Int.zero_mul, Int.sub_zero] at hcc hfc
          clear Hput2 Hstep
          have hK := HK.out
          go_wp2_with fail
          have hJ := HJ.out
          go_roundg (n - (k + 1))
          case measure => omega
          case rel => exact ⟨(k : Int) + 1, _, by go_num, by omega, by omega, by simp [hM], by omega, F⟩
        · have hx0' : (x / 4294967296 == 0) = false := by rw [beq_eq_false_iff_ne]; exact hx0
          have F := keep (show IR ((wr.setCell ⟨g, k, none⟩ (.int .i64 (x - x / 4294967296 * 4294967296))).setCell ⟨g, k + 1, none⟩ (.int .i64 (y + x / 4294967296))) g cap ((M.set k (x - x / 4294967296 * 4294967296)).set (k + 1) (y + x / 4294967296)) ∧ Box ((wr.setCell ⟨g, k, none⟩ (.int .i64 (x - x / 4294967296 * 4294967296))).setCell ⟨g, k + 1, none⟩ (.int .i64 (y + x / 4294967296))) sb cur ∧ Below lo w ((wr.setCell ⟨g, k, none⟩ (.int .i64 (x - x / 4294967296 * 4294967296))).setCell ⟨g, k + 1, none⟩ (.int .i64 (y + x / 4294967296))) ∧ Q1 l ((M.set k (x - x / 4294967296 * 4294967296)).set (k + 1) (y + x / 4294967296)) ((k : Int) + 1) from
            ⟨Hput2.out, Hbox.out.same (by rw [Below.heap_setCell _ _ _ _ (Ne.symm hne), Below.heap_setCell _ _ _ _ (Ne.symm hne)]), (Hbel.out.setCell (p := ⟨g, k, none⟩) hlo1 _).setCell (p := ⟨g, k + 1, none⟩) hlo1 _, Hstep.out⟩)
          clear Hput2 Hstep
          have hK := HK.out
          go_wp2_with fail
          have hJ := HJ.out
          go_roundg (n - (k + 1))
          case measure => omega
          case rel => exact ⟨(k : Int) + 1, _, by go_num, by omega, by omega, by simp [hM], by omega, F⟩
    · have hmid := keep (hq.out (by have := Hn.out; omega) (by have := Hn.out; omega))
      have Hbox := keep hbox
      have Hbel := keep hbel
      have Hrow := keep hrow
      clear hrow hbox hbel hq
      go_wp2_with fail
      exact HKK.out _ wr M ⟨rfl, rfl⟩ hM.symm Hrow.out Hbox.out Hbel.out hmid.out rfl rfl rfl

theorem c34_is : Code.seq (cl (bodyOf Try.f34)) (.seq (cl (cr (bodyOf Try.f34))) (.seq (cl (cr (cr (bodyOf Try.f34)))) (.seq (cl (cr (cr (cr (bodyOf Try.f34))))) c3))) = bodyOf Try.f34 := by kernel_rfl

theorem carry34 (w : World) (lo sb g cap n : Nat) (cur : Array Value) (l : List Int) (f t : Int) (hn : n = l.length) (hlen : n ≤ 65536) (hpos : 0 < n) (hf : 0 ≤ f) (hff : f ≤ 9223372036854775807)
    (hrow : IR w g cap l) (hbox : Box w sb cur) (hcs : w.cell? ⟨sb, 0, none⟩ = some (.slice (some ⟨g, 0, none⟩) n cap)) (hne : g ≠ sb) (hlo1 : lo ≤ g) (hlo2 : lo ≤ sb) (hpr : Prem l f t) :
    Calls Try.prog 34 #[.pointer (some ⟨sb, 0, none⟩), .int .i64 f, .int .i64 t] w (Left34 w lo sb l) := by
  refine calls_of_wp Try.func34 (c := bodyOf Try.f34) (by kernel_rfl) ?_
  rw [← c34_is]
  refine loop1 _ _ w _ ⟨by simp [Try.ntmps34], rfl⟩ lo sb g cap n cur l f t hn hlen hpos hf hff hrow hbox hcs hne hlo1 hlo2 hpr (by simp [sl, Array.getD]) (by simp [sl, Array.getD]) (by simp [sl, Array.getD]) ?_
  intro a1 w1 L1 hF1 hn1 hr1 hb1 hbel1 hm1 s0 s6 s7
  refine loop2 _ _ w w1 a1 hF1 lo sb g cap n cur l L1 hn1 (by omega) hr1 hb1 hne hlo1 hlo2 hbel1 hm1 s0 s6 s7 ?_
  intro a2 w2 g2 cap2 n2 p2 L2 hF2 hn2 hl2 hl2' hr2 hb2 hne2 hlo hbel2 ht2 s0 s6 s7
  exact loop3 w w2 a2 hF2 lo sb g2 cap2 n2 p2 cur l L2 hn2 hl2 hl2' hr2 hb2 hne2 hlo hlo2 hbel2 ht2 s0 s6 s7

end Go.Proofs.Qxb6600637a
