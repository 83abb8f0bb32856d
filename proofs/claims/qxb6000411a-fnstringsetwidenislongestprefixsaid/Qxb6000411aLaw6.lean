/-
  The law FnStringSetWidenIsLongestPrefix: its walk.
-/
import Derived.Test.Qxb6000411aContains
import Derived.Test.Qxb6000411aLaw7
import Derived.Test.Qxb6000411aWiden
namespace Go.Proofs.Qxb6000411a
open Go.RowKit Go.Maps Pl
set_option linter.unusedVariables false

theorem zzwiden_any (text : ByteArray) (w : World) (lo hi sb : Nat) (strs : List (List UInt8)) (h : SetIs w lo hi sb strs) (hhi : hi ≤ w.heap.size) (hs : text.size ≤ 1048576) (lb' cap : Nat) (hlb : lb' < lo ∨ hi ≤ lb') {X : Nat → Int} (hX : IRow w lb' cap text.size X) (hXb : ∀ j, 0 ≤ X j ∧ X j ≤ 1048576) :
    Calls Try.prog 26 #[.pointer (some ⟨sb, 0, none⟩), .string text, .slice (some ⟨lb', 0, none⟩) text.size cap] w fun e w' => e = .returned (.tuple #[]) ∧ IRow w' lb' cap text.size (fun j => max (X j) (lg strs ((bsl text).drop j) : Int)) ∧ w.grownBy w' (some lb') := by
  have hc := keep (widen_any text w lo hi sb strs h hhi hs lb' cap hlb hX hXb)
  clear h hX hXb
  go_enter Try.func26, Try.ntmps26
  go_wp2_with fail
  refine hc.out.mono ?_
  rintro e w' ⟨rfl, h1, h2⟩
  have H1 := keep h1
  clear h1
  go_wp2_with fail
  go_end0
  exact ⟨rfl, H1.out, h2⟩

theorem hd6_is : hdG (tlG (bodyOf Try.f6)) (bodyOf Try.f6) = bodyOf Try.f6 := by kernel_rfl

set_option maxRecDepth 100000 in
set_option maxHeartbeats 4000000 in
theorem head6 (c : Code) (w : World) (ao : Option Addr) (cap : Nat) (ss : List ByteArray) (text : ByteArray) (hv : SV w ao ss.length cap ss) (htx : text.size ≤ maxLen) (R : Ending → World → Prop) (hR : R (.returned (.bool true)) w)
    (a : Act) (hF : Fr 98 a) (s0 : sl a 0 = .slice ao ss.length cap) (s1 : sl a 1 = .string text)
    (hK : ∀ a' w' ao' cap', Fr 98 a' → StrsAt w' ao' ss → Below w.heap.size w w' → sl a' 0 = .slice ao' ss.length cap' → sl a' 1 = .string text →
      text.size ≤ 4096 → ss.length ≤ 4096 → szs ss ≤ 4096 → c.wp Try.prog (bodyPost Try.prog Try.f6 R) a' w') :
    Code.wp Try.prog (hdG c (bodyOf Try.f6)) (bodyPost Try.prog Try.f6 R) a w := by
  have hl1 : ss.length ≤ maxLen := Nat.le_trans hv.lec hv.max
  have c19 := keep (zzBytes25 w ao cap ss text hv.sc hl1 htx)
  have c1 := keep (bytesOf_any w ao cap ss hv.sc hl1 hv.sz)
  have c2 := keep (lensOf_any w ao cap ss hv.sc hl1 hv.sz)
  have hneq := fun (w : World) (a : Option Addr) (n c : Nat) => run_neq_slice_nil_any (P := Try.prog) w 22 9 a n c 0 0 Try.underlying22
  have HV := keep hv
  have HK := keep hK
  unfold maxLen at hl1 htx
  have e := fr98 hF
  simp only [s0, s1] at e
  rw [e]
  clear e s0 s1 hv hK
  unfold hdG
  conv => arg 2; arg 1; whnf
  conv => arg 2; arg 2; arg 1; whnf
  conv => arg 2; arg 2; arg 2; arg 1; whnf
  conv => arg 2; arg 2; arg 2; arg 2; arg 1; whnf
  conv => arg 2; arg 2; arg 2; arg 2; arg 2; arg 1; whnf
  go_wp2_with fail
  refine c19.out.mono ?_
  rintro e w' ⟨b, rfl, hw⟩
  rw [hw]
  clear hw w'
  cases b with
  | false =>
    go_wp2_with fail
    all_goals exact hR
  | true =>
    by_cases htl : text.size ≤ 1048576
    · have htl' : decide ((1048576 : Int) < (text.size : Int)) = false := by rw [decide_eq_false_iff_not]; omega
      go_wp2_with fail
      refine c1.out.mono ?_
      rintro e w' ⟨r1, rfl, hw, hr1, hr2, hr3⟩
      rw [hw]
      clear hw w'
      by_cases hsum : r1 + (text.size : Int) ≤ 1048576
      · by_cases hn1 : ss.length ≤ 4096
        · have hn1' : decide ((4096 : Int) < (ss.length : Int)) = false := by rw [decide_eq_false_iff_not]; omega
          by_cases hn2 : text.size ≤ 4096
          · have hn2' : decide ((4096 : Int) < (text.size : Int)) = false := by rw [decide_eq_false_iff_not]; omega
            go_wp2_with fail
            refine c2.out.mono ?_
            rintro e w' ⟨r2, rfl, hw, hq1, hq2, hq3⟩
            rw [hw]
            clear hw w'
            by_cases hn3 : r2 ≤ 4096
            · have hmk := run_make_row' (P := Try.prog) 22 9 (.string ByteArray.empty) 16 Try.underlying22 info9 rfl .i64 .i64 ss.length (by omega) (by omega)
              cases hao : ao with
              | none =>
                subst hao
                have hz := keep (HV.out.nil rfl).1
                go_wp2_with fail
                exact HK.out _ w none cap ⟨rfl, rfl⟩ (.inl (List.eq_nil_of_length_eq_zero hz.out)) (Below.refl _ _) rfl rfl hn2 hn1 (by omega)
              | some x =>
                have hsc := HV.out.sc
                rw [hao] at hsc
                have hms : (madeCells #[Value.string ByteArray.empty] ss.length).size = ss.length := size_madeCells _ _
                have hrw := Row.made w 9 (madeCells #[.string ByteArray.empty] ss.length) (by rw [hms]; unfold maxLen; omega)
                rw [toList_madeCells_one, hms] at hrw
                have hrl : (List.replicate ss.length (Value.string ByteArray.empty)).length = ss.length := by simp
                have Hsc := keep (hsc.alloc (.cells (madeCells #[.string ByteArray.empty] ss.length) 9))
                obtain ⟨w1, hcp, hr1, hg1⟩ := run_copyRow (P := Try.prog) 22 22 3 9 Try.underlying22 size9 w.heap.size ss.length _ (strV ss) hrw (some x) cap ss.length hrl (strV_len ss) Hsc.out.src (strV_one ss)
                clear hrl hsc hms hao Hsc hrw
                go_wp2_with fail
                refine HK.out _ w1 (some ⟨w.heap.size, 0, none⟩) ss.length ⟨rfl, rfl⟩ (strsAt_row hr1) (((Below.refl _ _).alloc (Nat.le_refl _) _).grown hg1 (by simp) (fun k e => by cases e; exact Nat.le_refl _)) rfl rfl hn2 hn1 (by omega)
            · go_wp2_with fail
              all_goals exact hR
          · go_wp2_with fail
            all_goals exact hR
        · go_wp2_with fail
          all_goals exact hR
      · go_wp2_with fail
        all_goals exact hR
    · go_wp2_with fail
      all_goals exact hR


theorem grown_drewN (w : World) (n : Nat) (r : Option Nat) : w.grownBy (w.drewN n) r := ⟨rfl, rfl, rfl, Nat.le_refl _, fun _ _ _ => rfl⟩
theorem lg_snoc (l : List (List UInt8)) (s u : List UInt8) : lg (l ++ [s]) u = if lg l u < s.length ∧ s.isPrefixOf u = true then s.length else lg l u := by
  unfold lg
  rw [List.foldl_append]
  rfl
theorem take_snoc {ss : List ByteArray} {k : Nat} (hk : k < ss.length) : (ss.map bsl).take (k + 1) = (ss.map bsl).take k ++ [bsl ss[k]] := by
  rw [List.take_succ_eq_append_getElem (by simpa using hk)]
  simp

set_option maxRecDepth 100000 in
set_option maxHeartbeats 4000000 in
theorem tail6 (a : Act) (w : World) (R : Ending → World → Prop) (hF : Fr 98 a) (ss : List ByteArray) (ao : Option Addr) (cap : Nat) (text : ByteArray) (hA : StrsAt w ao ss)
    (htl : text.size ≤ 4096) (hn1 : ss.length ≤ 4096) (hz1 : szs ss ≤ 4096) (hsz : ∀ s, s ∈ ss → s.size ≤ 1048576)
    (s0 : sl a 0 = .slice ao ss.length cap) (s1 : sl a 1 = .string text)
    (hR : ∀ w', Below w.heap.size w w' → R (.returned (.bool true)) w') :
    Code.wp Try.prog (tlG (bodyOf Try.f6)) (bodyPost Try.prog Try.f6 R) a w := by
  have cn1 := keep (zznew_any ss ao cap w hA (by omega) (by omega))
  have HR := keep hR
  have HA := keep hA
  have Hsz := keep hsz
  have e := fr98 hF
  simp only [s0, s1] at e
  rw [e]
  clear e s0 s1 hR hA hsz
  have hmk := run_make_row' (P := Try.prog) 46 21 (.int .i32 0) 4 Try.underlying46 info21 rfl .i64 .i64 text.size (by omega) (by omega)
  conv => arg 2; whnf
  go_wp2_with fail
  refine cn1.out.mono ?_
  rintro e w2 ⟨sb, rfl, hset, hb2⟩
  have Hset := keep hset
  clear hset cn1
  go_wp2_with fail
  have hms : (madeCells #[Value.int .i32 0] text.size).size = text.size := size_madeCells _ _
  have hrw := Row.made w2 21 (madeCells #[.int .i32 0] text.size) (by rw [hms]; unfold maxLen; omega)
  rw [toList_madeCells_one, hms] at hrw
  have hX : IRow (w2.alloc (.cells (madeCells #[.int .i32 0] text.size) 21)) w2.heap.size text.size text.size (fun _ => 0) := by
    unfold IRow
    rw [show ((List.range text.size).map fun _ => Value.int .i32 0) = List.replicate text.size (.int .i32 0) from by rw [List.map_const', List.length_range]]
    exact hrw
  have hset3 : SetIs (w2.alloc (.cells (madeCells #[.int .i32 0] text.size) 21)) w.heap.size w2.heap.size sb (ss.map bsl) := Hset.out.grown (World.grownBy_alloc w2 _ (some w2.heap.size)) (Nat.le_refl _) (.inr (Nat.le_refl _))
  have cw := keep (zzwiden_any text _ _ _ sb _ hset3 (by rw [World.size_alloc]; omega) (by omega) w2.heap.size text.size (.inr (Nat.le_refl _)) hX (fun j => by omega))
  have hb3 : Below w.heap.size w (w2.alloc (.cells (madeCells #[.int .i32 0] text.size) 21)) := hb2.alloc hb2.size _
  have HA3 := keep (HA.out.below hb3 (Nat.le_refl _))
  clear hset3 hX hrw hms hmk
  refine cw.out.mono ?_
  rintro e w4 ⟨rfl, hrow, hg4⟩
  have hb4 := hb3.grown hg4 hb3.size (fun k e => by cases e; exact hb2.size)
  have HA4 := keep (HA.out.below hb4 (Nat.le_refl _))
  have Hrow := keep hrow
  clear hrow hg4 hb3 HA3 cw
  go_wp2_with fail
  go_loopg [8] text.size (fun m i wr => w4.grownBy wr none ∧ ∃ p : Nat, p ≤ text.size ∧ text.size - p ≤ m ∧ i = .int .i64 p)
  case atStart => exact ⟨World.grownBy.refl _ _, 0, Nat.zero_le _, Nat.le_refl _, rfl⟩
  case round =>
    obtain ⟨hg, p, hp, hpm, rfl⟩ := hrel
    by_cases hlt : p < text.size
    · have hlt' : (p : Int) < (text.size : Int) := by omega
      rename_i J K hJ hK
      have HJ := keep hJ
      have HK := keep hK
      clear hJ hK
      go_wp2_with fail
      go_loopg [9, 10] ss.length (fun m v i w5 => w4.grownBy w5 none ∧ ∃ k : Nat, k ≤ ss.length ∧ ss.length - k ≤ m ∧ i = .int .i64 k ∧ v = .int .i64 (lg ((ss.map bsl).take k) ((bsl text).drop p) : Int))
      case atStart => exact ⟨hg, 0, Nat.zero_le _, Nat.le_refl _, rfl, rfl⟩
      case round =>
        clear hg
        obtain ⟨hg, k, hk, hkm, rfl, rfl⟩ := hrel
        by_cases hlk : k < ss.length
        · have hlk' : (k : Int) < (ss.length : Int) := by omega
          have hbb : Below w.heap.size w wr := hb4.grown hg hb4.size (fun k e => by cases e)
          obtain ⟨zb, rfl, hzb, hcell⟩ : ∃ zb, ao = some ⟨zb, 0, none⟩ ∧ zb < wr.heap.size ∧ ∀ i (h : i < ss.length), wr.cell? ⟨zb, i, none⟩ = some (.string ss[i]) := by
            rcases HA.out.below hbb (Nat.le_refl _) with h | h
            · subst h; simp at hlk
            · exact h
          have hck := hcell k hlk
          have hsk := Hsz.out _ (List.getElem_mem hlk)
          have hsn := keep (lg_snoc ((ss.map bsl).take k) (bsl ss[k]) ((bsl text).drop p))
          rw [← take_snoc hlk, bsl_len] at hsn
          have hlg := lg_le ((ss.map bsl).take k) ((bsl text).drop p)
          rw [List.length_drop, bsl_len] at hlg
          have hex : bsl (text.extract p text.size) = (bsl text).drop p := by
            rw [bsl_extract, List.take_of_length_le (by simp [bsl_len])]
          have cp := fun v => hasPrefix_any (text.extract p text.size) ss[k] v (by simp [maxLen]; omega) (by unfold maxLen; omega)
          rw [hex] at cp
          have cp := keep cp
          clear hcell hex hbb
          generalize (bsl ss[k]).isPrefixOf ((bsl text).drop p) = B at *
          generalize lg ((ss.map bsl).take k) ((bsl text).drop p) = G at *
          by_cases hgt : G < ss[k].size
          · have hgt' : decide ((G : Int) < (ss[k].size : Int)) = true := by rw [decide_eq_true_iff]; omega
            cases B with
            | true =>
              go_wp2_with fail
              go_quiet (first | (go_at_call 16; exact Calls.quiet_of_same (cp.out _)))
              go_wp2_with fail
              go_roundg (ss.length - (k + 1))
              case measure => omega
              case rel => exact ⟨hg.trans (grown_drewN _ _ _), k + 1, hlk, Nat.le_refl _, by go_num, by rw [hsn.out, if_pos (by simp [hgt])]⟩
            | false =>
              go_wp2_with fail
              go_quiet (first | (go_at_call 16; exact Calls.quiet_of_same (cp.out _)))
              go_wp2_with fail
              go_roundg (ss.length - (k + 1))
              case measure => omega
              case rel => exact ⟨hg.trans (grown_drewN _ _ _), k + 1, hlk, Nat.le_refl _, by go_num, by rw [hsn.out, if_neg (by simp)]⟩
          · have hgt' : decide ((G : Int) < (ss[k].size : Int)) = false := by rw [decide_eq_false_iff_not]; omega
            go_wp2_with fail
            go_quiet (fail)
            go_wp2_with fail
            go_roundg (ss.length - (k + 1))
            case measure => omega
            case rel => exact ⟨hg.trans (grown_drewN _ _ _), k + 1, hlk, Nat.le_refl _, by go_num, by rw [hsn.out, if_neg (fun h => hgt h.1)]⟩
        · obtain rfl : k = ss.length := by omega
          rw [List.take_of_length_le (by simp)]
          have hrw := (Row.kept Hrow.out hg (by simp))
          have hcl := IRow.at hrw (j := p) hlt
          have hlg := lg_le (ss.map bsl) ((bsl text).drop p)
          rw [List.length_drop, bsl_len] at hlg
          generalize lg (ss.map bsl) ((bsl text).drop p) = G at *
          rw [show max (0 : Int) (G : Int) = (G : Int) from by omega] at hcl
          clear hrw
          have hJ := HJ.out
          have hK := HK.out
          go_wp2_with fail
          go_roundg (text.size - (p + 1))
          case measure => omega
          case rel => exact ⟨hg, p + 1, hlt, Nat.le_refl _, by go_num⟩
    · go_wp2_with fail
      exact HR.out _ (hb4.grown hg hb4.size (fun k e => by cases e))
theorem size_le_szs6 {ss : List ByteArray} {s : ByteArray} (h : s ∈ ss) : s.size ≤ szs ss := by
  obtain ⟨j, hj, rfl⟩ := List.getElem_of_mem h
  have h1 := szs_take hj
  have h2 := sumLen_take (ss.map bsl) (j + 1)
  rw [← List.map_take] at h2
  unfold szs at h1 ⊢
  omega

theorem law6 (w : World) (ao : Option Addr) (cap : Nat) (ss : List ByteArray) (text : ByteArray) (hv : SV w ao ss.length cap ss) (htx : text.size ≤ maxLen) :
    Calls Try.prog 6 #[.slice ao ss.length cap, .string text] w fun e w' => e = .returned (.bool true) ∧ Below w.heap.size w w' := by
  refine calls_of_wp Try.func6 (c := bodyOf Try.f6) (by kernel_rfl) ?_
  rw [← hd6_is]
  refine head6 _ w ao cap ss text hv htx _ ⟨rfl, Below.refl _ _⟩ _ ⟨by simp [Try.ntmps6], rfl⟩ (by simp [sl, Array.getD]) (by simp [sl, Array.getD]) ?_
  intro a' w' ao' cap' hF' hA' hb' s0 s1 b1 b2 b3
  exact tail6 a' w' _ hF' ss ao' cap' text hA' b1 b2 b3 (fun s hs => by have := size_le_szs6 hs; omega) s0 s1 (fun w2 h2 => ⟨rfl, hb'.trans (h2.mono hb'.size)⟩)
end Go.Proofs.Qxb6000411a
