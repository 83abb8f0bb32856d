/-
  The law FnCarryNormalFormSameValue: its walk.
-/
import Derived.Test.Qxb6600637aCarry5
import Derived.Test.Qxb6600637aCarry2
namespace Go.Proofs.Qxb6600637a
open Go.RowKit Go.Maps
set_option linter.unusedVariables false

set_option maxRecDepth 100000 in
set_option maxHeartbeats 4000000 in
theorem zzcarry18 (w : World) (lo g cap n : Nat) (l : List Int) (f t : Int) (hn : n = l.length) (hlen : n ≤ 65536) (hpos : 0 < n) (hf : 0 ≤ f) (hff : f ≤ 9223372036854775807) (hrow : IR w g cap l) (hlo1 : lo ≤ g) (hpr : Prem l f t) :
    Calls Try.prog 18 #[.slice (some ⟨g, 0, none⟩) n cap, .int .i64 f, .int .i64 t] w fun e w' => ∃ (l' : List Int) (n' g' cap' : Nat), e = .returned (.slice (some ⟨g', 0, none⟩) n' cap') ∧ n' = l'.length ∧ IR w' g' cap' l' ∧ Carried l' ∧ vl l' = vl l ∧ n' ≤ l.length + 1 ∧ Below lo w w' := by
  have hlt := hrow.lt
  have hbox : Box (w.alloc (.cells #[.slice (some ⟨g, 0, none⟩) n cap, .int .i64 0] 54)) w.heap.size #[.slice (some ⟨g, 0, none⟩) n cap, .int .i64 0] := ⟨heap_alloc_new w _, by simp⟩
  have c34 := keep (carry34 (w.alloc (.cells #[.slice (some ⟨g, 0, none⟩) n cap, .int .i64 0] 54)) lo w.heap.size g cap n _ l f t hn hlen hpos hf hff (Row.alloc hrow _) hbox hbox.at (by omega) hlo1 (by omega) hpr)
  have hlw : lo ≤ w.heap.size := by omega
  clear hrow hpr hbox hn hlen hpos hf hff
  go_enter Try.func18, Try.ntmps18
  go_wp2_with fail
  refine c34.out.mono ?_
  rintro e w' ⟨rfl, l', n', g', cap', h1, h2, h3, h4, h5, h6, h7⟩
  have F := keep (show n' = l'.length ∧ IR w' g' cap' l' ∧ Carried l' ∧ vl l' = vl l ∧ n' ≤ l.length + 1 ∧ Below lo w w' from ⟨h1, h3, h4, h5, h6, ((Below.refl _ _).alloc hlw _).trans h7⟩)
  clear h1 h3 h4 h5 h6 h7 c34
  go_wp2_with fail
  go_ret
  exact ⟨l', n', g', cap', rfl, F.out⟩

set_option maxRecDepth 100000 in
set_option maxHeartbeats 4000000 in
theorem law5 (w : World) (ao : Option Addr) (cap : Nat) (l : List Int) (f t : Int) (hv : NS w ao l) (hlen : l.length ≤ maxLen) (hff : f ≤ 9223372036854775807) :
    Calls Try.prog 5 #[.slice ao l.length cap, .int .i64 f, .int .i64 t] w fun e w' => e = .returned (.bool true) ∧ Below w.heap.size w w' := by
  have c15 := keep (zzBytes15 w ao l.length cap f t hlen)
  have c16 := keep (fun h => premise16 w ao cap l f t hv h)
  have Hv := keep hv
  unfold maxLen at hlen
  clear hv
  go_enter Try.func5, Try.ntmps5
  go_wp2_with fail
  refine c15.out.mono ?_
  rintro e w' ⟨b, rfl, hw⟩
  rw [hw]
  clear hw w' c15
  cases b with
  | false =>
    go_wp2_with fail
    all_goals (go_ret; exact ⟨rfl, Below.refl _ _⟩)
  | true =>
    by_cases hl : l.length ≤ 65536
    · have hl' : decide ((65536 : Int) < (l.length : Int)) = false := by rw [decide_eq_false_iff_not]; omega
      by_cases h0 : l.length = 0
      · have h0' : ((l.length : Int) == 0) = true := by rw [beq_iff_eq]; omega
        go_wp2_with fail
        all_goals (go_ret; exact ⟨rfl, Below.refl _ _⟩)
      · have h0' : ((l.length : Int) == 0) = false := by rw [beq_eq_false_iff_ne]; omega
        by_cases hf : 0 ≤ f
        · have hf' : decide (f < 0) = false := by rw [decide_eq_false_iff_not]; omega
          have C16 := keep (c16.out hl)
          clear c16
          go_wp2_with fail
          refine C16.out.mono ?_
          rintro e w' (⟨rfl, hw⟩ | ⟨rfl, hw, hpr⟩)
          · rw [hw]
            clear hw w'
            go_wp2_with fail
            all_goals (go_ret; exact ⟨rfl, Below.refl _ _⟩)
          · rw [hw]
            clear hw w' C16
            have Hpr := keep hpr
            clear hpr
            obtain ⟨b, off, rfl, hb, hc⟩ : ∃ b off, ao = some ⟨b, off, none⟩ ∧ b < w.heap.size ∧ ∀ i, i < l.length → w.cell? ⟨b, off + i, none⟩ = some (.int .i64 (l.getD i 0)) := by
              rcases Hv.out with h | h
              · subst h; simp at h0
              · exact h
            have c17 := keep (clone17 w b off cap l hb hc hl)
            clear hc hb Hv
            go_wp2_with fail
            refine c17.out.mono ?_
            rintro e w1 ⟨rfl, hr1, hb1⟩
            have hlt1 := hr1.lt
            have c17b := keep (clone17 w1 w.heap.size 0 l.length l hlt1 (fun i hi => by rw [Nat.zero_add]; exact hr1.at hi) hl)
            have Hr1 := keep hr1
            have Hb1 := keep hb1
            clear hr1 hb1 c17
            go_wp2_with fail
            refine c17b.out.mono ?_
            rintro e w2 ⟨rfl, hr2, hb2⟩
            have c18 := keep (zzcarry18 w2 w1.heap.size w1.heap.size l.length l.length l f t rfl hl (by omega) hf hff hr2 (Nat.le_refl _) Hpr.out)
            have Hb2 := keep hb2
            clear hr2 hb2 c17b
            go_wp2_with fail
            refine c18.out.mono ?_
            rintro e w3 ⟨l', n', g', cap', rfl, h1, h2, h3, h4, h5, h6⟩
            have hr3 : IR w3 w.heap.size l.length l := Hr1.out.same (by rw [h6.block _ hlt1, Hb2.out.block _ hlt1])
            have hbel := keep (Hb1.out.trans ((Hb2.out.mono (Nat.le_of_lt hlt1)).trans (h6.mono (Nat.le_of_lt hlt1))))
            have c19 := keep (carried19 w3 g' cap' n' l' h1 h2 (by omega) h3)
            have c20 := keep (same20 w3 w.heap.size g' l.length cap' l.length n' l l' rfl h1 hr3 h2 (by omega) (by omega) (prem_all Hpr.out) h3.bounds h4.symm)
            clear h1 h2 h3 h4 h5 h6 hr3 c18 Hb1 Hb2 Hr1
            go_wp2_with fail
            refine c19.out.mono ?_
            rintro e w' ⟨rfl, hw⟩
            rw [hw]
            clear hw w' c19
            go_wp2_with fail
            refine c20.out.mono ?_
            rintro e w' ⟨rfl, hw⟩
            rw [hw]
            clear hw w' c20
            go_wp2_with fail
            go_ret
            exact ⟨rfl, hbel.out⟩
        · have hf' : decide (f < 0) = true := by rw [decide_eq_true_iff]; omega
          go_wp2_with fail
          all_goals (go_ret; exact ⟨rfl, Below.refl _ _⟩)
    · go_wp2_with fail
      all_goals (go_ret; exact ⟨rfl, Below.refl _ _⟩)

end Go.Proofs.Qxb6600637a
