/-
  The law FnStringSetIndexIsLeastContained: its walk.
-/
import Derived.Test.Qxb6000411aContains
import Derived.Test.Qxb6000411aLaw7
namespace Go.Proofs.Qxb6000411a
open Go.RowKit Go.Maps Pl
set_option linter.unusedVariables false

theorem hd5_is : hdG (tlG (bodyOf Try.f5)) (bodyOf Try.f5) = bodyOf Try.f5 := by kernel_rfl

set_option maxRecDepth 100000 in
set_option maxHeartbeats 4000000 in
theorem head5 (c : Code) (w : World) (ao : Option Addr) (cap : Nat) (ss : List ByteArray) (text : ByteArray) (hv : SV w ao ss.length cap ss) (htx : text.size ≤ maxLen) (R : Ending → World → Prop) (hR : R (.returned (.bool true)) w)
    (a : Act) (hF : Fr 66 a) (s0 : sl a 0 = .slice ao ss.length cap) (s1 : sl a 1 = .string text)
    (hK : ∀ a' w' ao' cap', Fr 66 a' → StrsAt w' ao' ss → Below w.heap.size w w' → sl a' 0 = .slice ao' ss.length cap' → sl a' 1 = .string text →
      text.size ≤ 4096 → ss.length ≤ 4096 → szs ss ≤ 4096 → c.wp Try.prog (bodyPost Try.prog Try.f5 R) a' w') :
    Code.wp Try.prog (hdG c (bodyOf Try.f5)) (bodyPost Try.prog Try.f5 R) a w := by
  have hl1 : ss.length ≤ maxLen := Nat.le_trans hv.lec hv.max
  have c19 := keep (zzBytes19 w ao cap ss text hv.sc hl1 htx)
  have c1 := keep (bytesOf_any w ao cap ss hv.sc hl1 hv.sz)
  have c2 := keep (lensOf_any w ao cap ss hv.sc hl1 hv.sz)
  have hneq := fun (w : World) (a : Option Addr) (n c : Nat) => run_neq_slice_nil_any (P := Try.prog) w 22 9 a n c 0 0 Try.underlying22
  have HV := keep hv
  have HK := keep hK
  unfold maxLen at hl1 htx
  have e := fr66 hF
  simp only [s0, s1] at e
  rw [e]
  clear e s0 s1 hv hK
  unfold hdG
  conv => arg 2; arg 1; whnf
  conv => arg 2; arg 2; arg 1; whnf
  conv => arg 2; arg 2; arg 2; arg 1; whnf
  conv => arg 2; arg 2; arg 2; arg 2; arg 1; whnf
  conv => arg 2; arg 2; arg 2; arg 2; arg 2; arg 1; whnf
  go_wp2_with fail
  refine c19.out.mono ?_
  rintro e w' ⟨b, rfl, hw⟩
  rw [hw]
  clear hw w'
  cases b with
  | false =>
    go_wp2_with fail
    all_goals exact hR
  | true =>
    by_cases htl : text.size ≤ 1048576
    · have htl' : decide ((1048576 : Int) < (text.size : Int)) = false := by rw [decide_eq_false_iff_not]; omega
      go_wp2_with fail
      refine c1.out.mono ?_
      rintro e w' ⟨r1, rfl, hw, hr1, hr2, hr3⟩
      rw [hw]
      clear hw w'
      by_cases hsum : r1 + (text.size : Int) ≤ 1048576
      · by_cases hn1 : ss.length ≤ 4096
        · have hn1' : decide ((4096 : Int) < (ss.length : Int)) = false := by rw [decide_eq_false_iff_not]; omega
          by_cases hn2 : text.size ≤ 4096
          · have hn2' : decide ((4096 : Int) < (text.size : Int)) = false := by rw [decide_eq_false_iff_not]; omega
            go_wp2_with fail
            refine c2.out.mono ?_
            rintro e w' ⟨r2, rfl, hw, hq1, hq2, hq3⟩
            rw [hw]
            clear hw w'
            by_cases hn3 : r2 ≤ 4096
            · have hmk := run_make_row' (P := Try.prog) 22 9 (.string ByteArray.empty) 16 Try.underlying22 info9 rfl .i64 .i64 ss.length (by omega) (by omega)
              cases hao : ao with
              | none =>
                subst hao
                have hz := keep (HV.out.nil rfl).1
                go_wp2_with fail
                exact HK.out _ w none cap ⟨rfl, rfl⟩ (.inl (List.eq_nil_of_length_eq_zero hz.out)) (Below.refl _ _) rfl rfl hn2 hn1 (by omega)
              | some x =>
                have hsc := HV.out.sc
                rw [hao] at hsc
                have hms : (madeCells #[Value.string ByteArray.empty] ss.length).size = ss.length := size_madeCells _ _
                have hrw := Row.made w 9 (madeCells #[.string ByteArray.empty] ss.length) (by rw [hms]; unfold maxLen; omega)
                rw [toList_madeCells_one, hms] at hrw
                have hrl : (List.replicate ss.length (Value.string ByteArray.empty)).length = ss.length := by simp
                have Hsc := keep (hsc.alloc (.cells (madeCells #[.string ByteArray.empty] ss.length) 9))
                obtain ⟨w1, hcp, hr1, hg1⟩ := run_copyRow (P := Try.prog) 22 22 3 9 Try.underlying22 size9 w.heap.size ss.length _ (strV ss) hrw (some x) cap ss.length hrl (strV_len ss) Hsc.out.src (strV_one ss)
                clear hrl hsc hms hao Hsc hrw
                go_wp2_with fail
                refine HK.out _ w1 (some ⟨w.heap.size, 0, none⟩) ss.length ⟨rfl, rfl⟩ (strsAt_row hr1) (((Below.refl _ _).alloc (Nat.le_refl _) _).grown hg1 (by simp) (fun k e => by cases e; exact Nat.le_refl _)) rfl rfl hn2 hn1 (by omega)
            · go_wp2_with fail
              all_goals exact hR
          · go_wp2_with fail
            all_goals exact hR
        · go_wp2_with fail
          all_goals exact hR
      · go_wp2_with fail
        all_goals exact hR
    · go_wp2_with fail
      all_goals exact hR

theorem lb_at {p : List UInt8 → Bool} : ∀ {l : List (List UInt8)} {k : Nat} (h : k < l.length), (∀ j (hj : j < k), p (l[j]'(Nat.lt_trans hj h)) = false) → p l[k] = true → lb p l = (k : Int)
  | [], k, h, _, _ => by simp at h
  | s :: l, 0, _, _, hp => by rw [lb_cons, if_pos (by simpa using hp)]; rfl
  | s :: l, k + 1, h, hn, hp => by
    have h0 := hn 0 (by omega)
    have ih := lb_at (l := l) (k := k) (by simpa using h) (fun j hj => by have := hn (j + 1) (by omega); simpa using this) (by simpa using hp)
    rw [lb_cons, if_neg (by simpa using h0), ih, if_neg (by omega)]
    omega

set_option maxRecDepth 100000 in
set_option maxHeartbeats 4000000 in
theorem tail5 (a : Act) (w : World) (R : Ending → World → Prop) (hF : Fr 66 a) (ss : List ByteArray) (ao : Option Addr) (cap : Nat) (text : ByteArray) (hA : StrsAt w ao ss)
    (htl : text.size ≤ 4096) (hn1 : ss.length ≤ 4096) (hz1 : szs ss ≤ 4096) (hsz : ∀ s, s ∈ ss → s.size ≤ 1048576)
    (s0 : sl a 0 = .slice ao ss.length cap) (s1 : sl a 1 = .string text)
    (hR : ∀ w', Below w.heap.size w w' → R (.returned (.bool true)) w') :
    Code.wp Try.prog (tlG (bodyOf Try.f5)) (bodyPost Try.prog Try.f5 R) a w := by
  have cn1 := keep (zznew_any ss ao cap w hA (by omega) (by omega))
  have HR := keep hR
  have HA := keep hA
  have Hsz := keep hsz
  have e := fr66 hF
  simp only [s0, s1] at e
  rw [e]
  clear e s0 s1 hR hA hsz
  conv => arg 2; whnf
  go_wp2_with fail
  refine cn1.out.mono ?_
  rintro e w2 ⟨sb, rfl, hset, hb2⟩
  have ci1 := keep (zzindex_any text w2 _ _ sb _ hset (by unfold maxLen; omega))
  go_wp2_with fail
  refine ci1.out.mono ?_
  rintro e w' ⟨rfl, hw⟩
  rw [hw]
  clear hw w' ci1 cn1 hset
  generalize hL : lb (fun s => inf s (bsl text)) (ss.map bsl) = L
  have HL := keep hL
  clear hL
  have HA2 := keep (HA.out.below hb2 (Nat.le_refl _))
  go_wp2_with fail
  go_loopg [7, 8] ss.length (fun m v i wr => wr = w2 ∧ v = .int .i64 (-1) ∧ ∃ k : Nat, k ≤ ss.length ∧ ss.length - k ≤ m ∧ i = .int .i64 k ∧ Hid (∀ j (hj : j < ss.length), j < k → inf (bsl ss[j]) (bsl text) = false))
  case atStart => exact ⟨rfl, rfl, 0, Nat.zero_le _, Nat.le_refl _, rfl, fun j _ h => by omega⟩
  case round =>
    obtain ⟨rfl, rfl, k, hk, hkm, rfl, hno⟩ := hrel
    by_cases hlt : k < ss.length
    · obtain ⟨zb, rfl, hzb, hcell⟩ : ∃ zb, ao = some ⟨zb, 0, none⟩ ∧ zb < wr.heap.size ∧ ∀ i (h : i < ss.length), wr.cell? ⟨zb, i, none⟩ = some (.string ss[i]) := by
        rcases HA2.out with h | h
        · subst h; simp at hlt
        · exact h
      have hck := hcell k hlt
      have cc := keep (contains_any text ss[k] wr (by omega) (Hsz.out _ (List.getElem_mem hlt)))
      have hlt' : (k : Int) < (ss.length : Int) := by omega
      clear hcell
      cases hi : inf (bsl ss[k]) (bsl text) with
      | true =>
        have hwant : Hid (L = (k : Int)) := by
          show L = _
          rw [← HL.out]
          refine lb_at (by simpa using hlt) (fun j hj => ?_) (by simpa using hi)
          have := hno.out j (by omega) hj
          simpa using this
        have Hi := keep hi
        clear hi
        go_wp2_with fail
        refine cc.out.mono ?_
        rintro e w' ⟨rfl, hw⟩
        rw [hw, Hi.out, hwant.out]
        clear hw w'
        go_wp2_with fail
        exact HR.out _ hb2
      | false =>
        have Hi := keep hi
        clear hi
        go_wp2_with fail
        refine cc.out.mono ?_
        rintro e w' ⟨rfl, hw⟩
        rw [hw, Hi.out]
        clear hw w'
        go_wp2_with fail
        go_roundg (ss.length - (k + 1))
        case measure => omega
        case rel =>
          refine ⟨rfl, rfl, k + 1, hlt, Nat.le_refl _, by go_num, ?_⟩
          intro j hj hjk
          rcases Nat.lt_or_ge j k with h | h
          · exact hno.out j hj h
          · obtain rfl : j = k := by omega
            exact Hi.out
    · have hwant : Hid (L = -1) := by
        show L = _
        rw [← HL.out]
        refine lb_none fun s hs => ?_
        obtain ⟨s', hs', rfl⟩ := List.mem_map.1 hs
        obtain ⟨j, hj, rfl⟩ := List.getElem_of_mem hs'
        exact hno.out j hj (by omega)
      rw [hwant.out]
      go_wp2_with fail
      exact HR.out _ hb2

theorem size_le_szs {ss : List ByteArray} {s : ByteArray} (h : s ∈ ss) : s.size ≤ szs ss := by
  obtain ⟨j, hj, rfl⟩ := List.getElem_of_mem h
  have h1 := szs_take hj
  have h2 := sumLen_take (ss.map bsl) (j + 1)
  rw [← List.map_take] at h2
  unfold szs at h1 ⊢
  omega

theorem law5 (w : World) (ao : Option Addr) (cap : Nat) (ss : List ByteArray) (text : ByteArray) (hv : SV w ao ss.length cap ss) (htx : text.size ≤ maxLen) :
    Calls Try.prog 5 #[.slice ao ss.length cap, .string text] w fun e w' => e = .returned (.bool true) ∧ Below w.heap.size w w' := by
  refine calls_of_wp Try.func5 (c := bodyOf Try.f5) (by kernel_rfl) ?_
  rw [← hd5_is]
  refine head5 _ w ao cap ss text hv htx _ ⟨rfl, Below.refl _ _⟩ _ ⟨by simp [Try.ntmps5], rfl⟩ (by simp [sl, Array.getD]) (by simp [sl, Array.getD]) ?_
  intro a' w' ao' cap' hF' hA' hb' s0 s1 b1 b2 b3
  exact tail5 a' w' _ hF' ss ao' cap' text hA' b1 b2 b3 (fun s hs => by have := size_le_szs hs; omega) s0 s1 (fun w2 h2 => ⟨rfl, hb'.trans (h2.mono hb'.size)⟩)
#print axioms law5
end Go.Proofs.Qxb6000411a
