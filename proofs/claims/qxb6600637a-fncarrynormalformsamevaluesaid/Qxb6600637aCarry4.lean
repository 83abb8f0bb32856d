/-
  'carry': the second loop.
-/
import Derived.Test.Qxb6600637aCarry3
namespace Go.Proofs.Qxb6600637a
open Go.RowKit Go.Maps
set_option linter.unusedVariables false

theorem cell_new (w : World) (y : Value) : (w.alloc (.cells #[y] 2)).cell? ⟨w.heap.size, 0, none⟩ = some y := by simp
theorem cell_new2 (w : World) (q : Addr) (v y : Value) : ((w.setCell q v).alloc (.cells #[y] 2)).cell? ⟨w.heap.size, 0, none⟩ = some y := by
  have h : ((w.setCell q v).alloc (.cells #[y] 2)).cell? ⟨(w.setCell q v).heap.size, 0, none⟩ = some y := cell_new _ y
  have e : (w.setCell q v).heap.size = w.heap.size := by simp
  rwa [e] at h
theorem Box.lt {w : World} {sb : Nat} {cur : Array Value} (h : Box w sb cur) : sb < w.heap.size := (Array.getElem?_eq_some_iff.1 h.1).1

/-- What an append leaves. -/
theorem push_mem {w0 wr w2 : World} {lo sb g p g2 c2 : Nat} {cur : Array Value} {M : List Int} {v c : Int} (hbox : Box wr sb cur) (hne : g ≠ sb) (hlo : lo ≤ g) (hlo2 : lo ≤ sb) (hbel : Below lo w0 wr)
    (hp2 : Row w2 2 g2 c2 ((M.set p v).map (Value.int .i64 ·) ++ [.int .i64 c])) (hg2 : ((wr.setCell ⟨g, p, none⟩ (.int .i64 v)).alloc (.cells #[.int .i64 c] 2)).grownBy w2 (some g))
    (hl2 : g2 = g ∨ g2 = ((wr.setCell ⟨g, p, none⟩ (.int .i64 v)).alloc (.cells #[.int .i64 c] 2)).heap.size) :
    IR w2 g2 c2 (M.set p v ++ [c]) ∧ Box w2 sb cur ∧ Below lo w0 w2 ∧ g2 ≠ sb ∧ lo ≤ g2 := by
  have hlt := hbox.lt
  have hs1 : (wr.setCell ⟨g, p, none⟩ (.int .i64 v)).heap.size = wr.heap.size := by simp
  have hs2 : ((wr.setCell ⟨g, p, none⟩ (.int .i64 v)).alloc (.cells #[.int .i64 c] 2)).heap.size = wr.heap.size + 1 := by rw [World.size_alloc, hs1]
  refine ⟨?_, hbox.same ?_, ?_, ?_, ?_⟩
  · unfold IR
    rw [List.map_append]
    exact hp2
  · rw [hg2.block sb (by omega) (by simpa using fun h => hne h.symm), Below.heap_alloc _ _ _ (by omega), Below.heap_setCell _ _ _ _ (Ne.symm hne)]
  · exact ((hbel.setCell (p := ⟨g, p, none⟩) hlo _).alloc (by omega) _).grown hg2 (by omega) (fun k e => by cases e; exact hlo)
  · rcases hl2 with rfl | rfl
    · exact hne
    · omega
  · rcases hl2 with rfl | rfl
    · exact hlo
    · omega

set_option maxRecDepth 100000 in
set_option maxHeartbeats 4000000 in
theorem loop2 (c : Code) (Q : Exit → Act → World → Prop) (w0 w : World) (a : Act) (hF : Fr 137 a) (lo sb g cap N : Nat) (cur : Array Value) (l L : List Int) (hN : N = L.length) (hlen : l.length ≤ 65536) (hrow : IR w g cap L) (hbox : Box w sb cur) (hne : g ≠ sb) (hlo1 : lo ≤ g) (hlo2 : lo ≤ sb) (hbel : Below lo w0 w) (hm : Mid l L)
    (s0 : sl a 0 = .pointer (some ⟨sb, 0, none⟩)) (s6 : sl a 6 = .slice (some ⟨g, 0, none⟩) N cap) (s7 : sl a 7 = .int .i64 ((N : Int) - 1))
    (hK : ∀ a' w' g' cap' N' p L', Fr 137 a' → N' = List.length L' → N' ≤ 131072 → N' ≤ l.length + 1 → IR w' g' cap' L' → Box w' sb cur → g' ≠ sb → lo ≤ g' → Below lo w0 w' → T3 l L' p →
      sl a' 0 = .pointer (some ⟨sb, 0, none⟩) → sl a' 6 = .slice (some ⟨g', 0, none⟩) N' cap' → sl a' 7 = .int .i64 (p : Nat) → c.wp Try.prog Q a' w') :
    Code.wp Try.prog (.seq (cl (cr (cr (cr (bodyOf Try.f34))))) c) Q a w := by
  have HKK := keep hK
  have hm1 := hm.2.1
  have hm2 : N ≤ l.length + 1 ∧ l.length + 1 - N ≤ 1 := by have := hm.2.2.2; omega
  obtain ⟨p, hp⟩ : ∃ p, N = p + 1 := ⟨N - 1, by omega⟩
  have s7' : sl a 7 = .int .i64 (p : Int) := by rw [s7]; congr 1; omega
  have H0 := keep (show IR w g cap L ∧ Box w sb cur ∧ Below lo w0 w ∧ Mid l L ∧ g ≠ sb ∧ lo ≤ g from ⟨hrow, hbox, hbel, hm, hne, hlo1⟩)
  have e := fr137 hF
  simp only [s0, s6, s7'] at e
  rw [e]
  clear e s0 s6 s7 s7' hrow hbox hbel hm hF hK hne hlo1
  conv => arg 2; arg 1; whnf
  go_wp2_with fail
  go_loopg [6, 7] 1 (fun m d i wr => ∃ (g' cap' p : Nat) (M : List Int), d = .slice (some ⟨g', 0, none⟩) (p + 1) cap' ∧ i = .int .i64 p ∧ M.length = p + 1 ∧ p ≤ l.length ∧ l.length - p ≤ m ∧ Hid (IR wr g' cap' M ∧ Box wr sb cur ∧ Below lo w0 wr ∧ Mid l M ∧ g' ≠ sb ∧ lo ≤ g'))
  case atStart => exact ⟨g, cap, p, L, by rw [hp], rfl, by omega, by omega, by omega, H0.out⟩
  case round =>
    rename_i J K hJ hK
    have HJ := keep hJ
    have HK := keep hK
    clear hJ hK H0 hN hm1 hm2 hp
    obtain ⟨g', cap', p, M, rfl, rfl, hM, hpl, hmm, HH⟩ := hrel
    obtain ⟨hrow, hbox, hbel, hm, hne, hlo⟩ := HH.out
    have hc := hrow.at (i := p) (by omega)
    have hfr := hrow.free p
    have Hbox := keep hbox
    have Hbel := keep hbel
    have Hrow := keep hrow
    have hcap := hrow.le.1
    clear HH hbox hbel
    by_cases hin : -2147483648 ≤ M.getD p 0 ∧ M.getD p 0 < 2147483648
    · obtain ⟨h1, h2⟩ := hin
      have he := keep (hm.t3 hM h1 h2)
      clear hm hrow
      generalize M.getD p 0 = x at hc h1 h2
      go_wp2_with fail
      exact HKK.out _ wr g' cap' (p + 1) p M ⟨rfl, rfl⟩ hM.symm (by omega) (by omega) Hrow.out Hbox.out hne hlo Hbel.out he.out rfl rfl rfl
    · have he := keep (hm.push hM (by omega))
      have hput := hrow.put p (M.getD p 0 - M.getD p 0 / 4294967296 * 4294967296)
      have hbd : -4611686020574871552 ≤ M.getD p 0 ∧ M.getD p 0 ≤ 4611686020574871552 := by
        have := hm.2.2.2
        rw [hM, Nat.add_sub_cancel] at this
        omega
      have hout : M.getD p 0 < -2147483648 ∨ 2147483648 ≤ M.getD p 0 := by omega
      have Hput := keep hput
      clear hm hrow hput hin
      generalize M.getD p 0 = x at hc he Hput hbd hout
      obtain ⟨hb1, hb2⟩ := hbd
      have Hl := keep (show ((M.set p (x - x / 4294967296 * 4294967296)).map (Value.int .i64 ·)).length = p + 1 by simp [hM])
      have Hy := keep (show ((wr.setCell ⟨g', p, none⟩ (.int .i64 (x - x / 4294967296 * 4294967296))).alloc (.cells #[.int .i64 (x / 4294967296)] 2)).cell? ⟨wr.heap.size, 0, none⟩ = some (.int .i64 (x / 4294967296)) by
        exact cell_new2 _ _ _ _)
      rcases hout with hout | hout
      · have hK := HK.out
        go_wp2_with (first
          | (at_builtin; refine wpList_app _ rfl (.tmp 78) (.tmp 80) 32 rfl 2 (.int .i64 0) 8 Try.underlying32 info2 rfl g' cap' ((M.set p (x - x / 4294967296 * 4294967296)).map (Value.int .i64 ·)) (by rw [Hl.out]; rfl) (Row.alloc Hput.out _) wr.heap.size 1 (.int .i64 (x / 4294967296)) rfl Hy.out rfl (by rw [Hl.out]; omega) (by rw [Hl.out]; unfold maxLen; omega) ?_; intro g2 c2 w2 hp2 hg2 hl2; rw [Hl.out])
          | fail)
        obtain ⟨f1, f2, f3, f4, f5⟩ := push_mem Hbox.out hne hlo hlo2 Hbel.out hp2 hg2 hl2
        have F := keep (show IR w2 g2 c2 (M.set p (x - x / 4294967296 * 4294967296) ++ [x / 4294967296]) ∧ Box w2 sb cur ∧ Below lo w0 w2 ∧ Mid l (M.set p (x - x / 4294967296 * 4294967296) ++ [x / 4294967296]) ∧ g2 ≠ sb ∧ lo ≤ g2 from ⟨f1, f2, f3, he.out.2, f4, f5⟩)
        have hlm := he.out.1
        clear f1 f2 f3 f4 f5 hp2 hg2 hl2
        have hJ := HJ.out
        go_roundg 0
        case measure => omega
        case rel => exact ⟨g2, c2, p + 1, _, rfl, by go_num, by simp [hM], by omega, by omega, F⟩
      · have hK := HK.out
        go_wp2_with (first
          | (at_builtin; refine wpList_app _ rfl (.tmp 78) (.tmp 80) 32 rfl 2 (.int .i64 0) 8 Try.underlying32 info2 rfl g' cap' ((M.set p (x - x / 4294967296 * 4294967296)).map (Value.int .i64 ·)) (by rw [Hl.out]; rfl) (Row.alloc Hput.out _) wr.heap.size 1 (.int .i64 (x / 4294967296)) rfl Hy.out rfl (by rw [Hl.out]; omega) (by rw [Hl.out]; unfold maxLen; omega) ?_; intro g2 c2 w2 hp2 hg2 hl2; rw [Hl.out])
          | fail)
        obtain ⟨f1, f2, f3, f4, f5⟩ := push_mem Hbox.out hne hlo hlo2 Hbel.out hp2 hg2 hl2
        have F := keep (show IR w2 g2 c2 (M.set p (x - x / 4294967296 * 4294967296) ++ [x / 4294967296]) ∧ Box w2 sb cur ∧ Below lo w0 w2 ∧ Mid l (M.set p (x - x / 4294967296 * 4294967296) ++ [x / 4294967296]) ∧ g2 ≠ sb ∧ lo ≤ g2 from ⟨f1, f2, f3, he.out.2, f4, f5⟩)
        have hlm := he.out.1
        clear f1 f2 f3 f4 f5 hp2 hg2 hl2
        have hJ := HJ.out
        go_roundg 0
        case measure => omega
        case rel => exact ⟨g2, c2, p + 1, _, rfl, by go_num, by simp [hM], by omega, by omega, F⟩

end Go.Proofs.Qxb6600637a
