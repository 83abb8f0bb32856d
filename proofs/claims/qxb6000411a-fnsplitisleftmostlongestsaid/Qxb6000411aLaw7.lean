/-
  The law FnStringSetIndexStableUnderAppend: its head (the guards, the copy).
-/
import Derived.Test.Qxb6000411aFrames2
namespace Go.Proofs.Qxb6000411a
open Go.RowKit Go.Maps Pl
set_option linter.unusedVariables false

/-- The guards and the copy; what follows left open. -/
def hdG (c b : Code) : Code := .seq (cl b) (.seq (cl (cr b)) (.seq (cl (cr (cr b))) (.seq (cl (cr (cr (cr b)))) (.seq (cl (cr (cr (cr (cr b))))) c))))
def tlG (b : Code) : Code := cr (cr (cr (cr (cr b))))
theorem hd7_is : hdG (tlG (bodyOf Try.f7)) (bodyOf Try.f7) = bodyOf Try.f7 := by kernel_rfl

set_option maxRecDepth 100000 in
set_option maxHeartbeats 4000000 in
theorem head7 (c : Code) (w : World) (ao ao2 : Option Addr) (cap cap2 : Nat) (ss ss2 : List ByteArray) (text : ByteArray) (hv : SV w ao ss.length cap ss) (hv2 : SV w ao2 ss2.length cap2 ss2) (htx : text.size ≤ maxLen) (R : Ending → World → Prop) (hR : R (.returned (.bool true)) w)
    (a : Act) (hF : Fr 110 a) (s0 : sl a 0 = .slice ao ss.length cap) (s1 : sl a 1 = .slice ao2 ss2.length cap2) (s2 : sl a 2 = .string text)
    (hK : ∀ a' w' ao' cap', Fr 110 a' → StrsAt w' ao' ss → Below w.heap.size w w' → sl a' 0 = .slice ao' ss.length cap' → sl a' 1 = .slice ao2 ss2.length cap2 → sl a' 2 = .string text →
      text.size ≤ 1048576 → ss.length ≤ 65536 → ss2.length ≤ 65536 → szs ss ≤ 1048576 → szs ss2 ≤ 1048576 → c.wp Try.prog (bodyPost Try.prog Try.f7 R) a' w') :
    Code.wp Try.prog (hdG c (bodyOf Try.f7)) (bodyPost Try.prog Try.f7 R) a w := by
  have hl1 : ss.length ≤ maxLen := Nat.le_trans hv.lec hv.max
  have hl2 : ss2.length ≤ maxLen := Nat.le_trans hv2.lec hv2.max
  have c27 := keep (zzBytes27 w ao ao2 cap cap2 ss ss2 text hv.sc hv2.sc hl1 hl2 htx)
  have c1 := keep (bytesOf_any w ao cap ss hv.sc hl1 hv.sz)
  have c2 := keep (bytesOf_any w ao2 cap2 ss2 hv2.sc hl2 hv2.sz)
  have hneq := fun (w : World) (a : Option Addr) (n c : Nat) => run_neq_slice_nil_any (P := Try.prog) w 22 9 a n c 0 0 Try.underlying22
  have HV := keep hv
  have HV2 := keep hv2
  have HK := keep hK
  unfold maxLen at hl1 hl2 htx
  have e := fr110 hF
  simp only [s0, s1, s2] at e
  rw [e]
  clear e s0 s1 s2 hv hv2 hK
  unfold hdG
  conv => arg 2; arg 1; whnf
  conv => arg 2; arg 2; arg 1; whnf
  conv => arg 2; arg 2; arg 2; arg 1; whnf
  conv => arg 2; arg 2; arg 2; arg 2; arg 1; whnf
  conv => arg 2; arg 2; arg 2; arg 2; arg 2; arg 1; whnf
  go_wp2_with fail
  refine c27.out.mono ?_
  rintro e w' ⟨b, rfl, hw⟩
  rw [hw]
  clear hw w'
  cases b with
  | false =>
    go_wp2_with fail
    all_goals exact hR
  | true =>
    by_cases htl : text.size ≤ 1048576
    · have htl' : decide ((1048576 : Int) < (text.size : Int)) = false := by rw [decide_eq_false_iff_not]; omega
      go_wp2_with fail
      refine c1.out.mono ?_
      rintro e w' ⟨r1, rfl, hw, hr1, hr2, hr3⟩
      rw [hw]
      clear hw w'
      go_wp2_with fail
      refine c2.out.mono ?_
      rintro e w' ⟨r2, rfl, hw, hq1, hq2, hq3⟩
      rw [hw]
      clear hw w'
      by_cases hsum : r1 + r2 + (text.size : Int) ≤ 1048576
      · by_cases hn1 : ss.length ≤ 65536
        · have hn1' : decide ((65536 : Int) < (ss.length : Int)) = false := by rw [decide_eq_false_iff_not]; omega
          by_cases hn2 : ss2.length ≤ 65536
          · have hmk := run_make_row' (P := Try.prog) 22 9 (.string ByteArray.empty) 16 Try.underlying22 info9 rfl .i64 .i64 ss.length (by omega) (by omega)
            cases hao : ao with
            | none =>
              subst hao
              have hz := keep (HV.out.nil rfl).1
              go_wp2_with fail
              exact HK.out _ w none cap ⟨rfl, rfl⟩ (.inl (List.eq_nil_of_length_eq_zero hz.out)) (Below.refl _ _) rfl rfl rfl htl hn1 hn2 (by omega) (by omega)
            | some x =>
              have hsc := HV.out.sc
              rw [hao] at hsc
              have hms : (madeCells #[Value.string ByteArray.empty] ss.length).size = ss.length := size_madeCells _ _
              have hrw := Row.made w 9 (madeCells #[.string ByteArray.empty] ss.length) (by rw [hms]; unfold maxLen; omega)
              rw [toList_madeCells_one, hms] at hrw
              have hrl : (List.replicate ss.length (Value.string ByteArray.empty)).length = ss.length := by simp
              have Hsc := keep (hsc.alloc (.cells (madeCells #[.string ByteArray.empty] ss.length) 9))
              obtain ⟨w1, hcp, hr1, hg1⟩ := run_copyRow (P := Try.prog) 22 22 3 9 Try.underlying22 size9 w.heap.size ss.length _ (strV ss) hrw (some x) cap ss.length hrl (strV_len ss) Hsc.out.src (strV_one ss)
              clear hrl hsc hms hao Hsc hrw
              go_wp2_with fail
              refine HK.out _ w1 (some ⟨w.heap.size, 0, none⟩) ss.length ⟨rfl, rfl⟩ (strsAt_row hr1) (((Below.refl _ _).alloc (Nat.le_refl _) _).grown hg1 (by simp) (fun k e => by cases e; exact Nat.le_refl _)) rfl rfl rfl htl hn1 hn2 (by omega) (by omega)
          · go_wp2_with fail
            all_goals exact hR
        · go_wp2_with fail
          all_goals exact hR
      · go_wp2_with fail
        all_goals exact hR
    · go_wp2_with fail
      all_goals exact hR
end Go.Proofs.Qxb6000411a
