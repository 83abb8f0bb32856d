/-
  newStringSet: a new state is made (stringset.go:42 to 49).
-/
import Derived.Test.Qxb6000411aTrieMem
namespace Go.Proofs.Qxb6000411a
open Go.RowKit Go.Maps Pl

def pL1 (b : Code) : Code := ci (ci (cr (cl (cr (cr (cr b))))))
def pX (b : Code) : Code := ci (cl (cr (cr (pL1 b))))
def pL2 (b : Code) : Code := ci (ci (cr (cl (cr (cr (pX b))))))
def pY (b : Code) : Code := ci (cl (cr (pL2 b)))
def pN (b : Code) : Code := ct (cr (cl (cr (cr (pY b)))))

theorem info21 : (Try.prog.info? 21).map (fun i => (i.zero, i.size, i.bytes)) = some (some (.int .i32 0), 1, 4) := by kernel_rfl
theorem info5 : (Try.prog.info? 5).map (fun i => (i.zero, i.size, i.bytes)) = some (some (.int .u8 0), 1, 1) := by kernel_rfl

section
variable {w w1 : World} {o : Obj} {r : Nat}
theorem Row.go {e : TypeId} {g cap : Nat} {xs : List Value} (h : Row w e g cap xs) (hg : (w.alloc o).grownBy w1 (some r)) (hne : g ≠ r) : Row w1 e g cap xs := (h.alloc o).kept hg (by simpa using hne)
theorem MapIs.go {mb n : Nat} {g : Int → Option Int} (h : MapIs w mb n g) (hg : (w.alloc o).grownBy w1 (some r)) (hne : mb ≠ r) : MapIs w1 mb n g := (h.kept (World.grownBy_alloc w o none) (by simp)).kept hg (by simpa using hne)
theorem Str.go {sb mb : Nat} {rt : Nat → Int} {fv lv ev : Value} (h : Str w sb rt mb fv lv ev) (hg : (w.alloc o).grownBy w1 (some r)) (hne : sb ≠ r) : Str w1 sb rt mb fv lv ev := (h.kept (World.grownBy_alloc w o none) (by simp)).kept hg (by simpa using hne)
theorem Below.go {B : Nat} {w0 : World} (h : Below B w0 w) (hg : (w.alloc o).grownBy w1 (some r)) (hB : B ≤ w.heap.size) (hr : B ≤ r) : Below B w0 w1 :=
  (h.alloc hB o).grown hg (by simp; omega) (fun k e => by cases e; exact hr)
theorem ne_of_loc {g p k n : Nat} (h : g = p ∨ g = n) (hp : p ≠ k) (hk : k < n) : g ≠ k := by omega
end

set_option maxRecDepth 100000 in
set_option maxHeartbeats 4000000 in
theorem newStateA (c : Code) (a : Act) (w : World) (Q : Exit → Act → World → Prop) (hF : Fr 285 a) (B sb mb pb pcap qb qcap nb ncap ib icap s b n : Nat) (L : Int) (ps qs ns is : List Value) {rt : Nat → Int} {g : Int → Option Int}
    (hp : Row w 21 pb pcap ps) (hq : Row w 5 qb qcap qs) (hn : Row w 21 nb ncap ns) (hi : Row w 21 ib icap is) (hS : Str w sb rt mb nilS nilS nilS) (hM : MapIs w mb n g)
    (hpl : ps.length < 1073741824) (hql : qs.length = ps.length) (hnl : ns.length = ps.length) (hil : is.length = ps.length) (pn : pb ≠ nb) (pi : pb ≠ ib) (ni : nb ≠ ib)
    (lo : B ≤ pb ∧ B ≤ qb ∧ B ≤ nb ∧ B ≤ ib) (hB : B ≤ w.heap.size)
    (hs : s < ps.length) (hns : ns[s]? = some (.int .i32 L)) (hL0 : 0 ≤ L) (hL1 : L < 1073741824)
    (s4 : sl a 4 = .slice (some ⟨pb, 0, none⟩) ps.length pcap) (s5 : sl a 5 = .slice (some ⟨qb, 0, none⟩) ps.length qcap) (s6 : sl a 6 = .slice (some ⟨nb, 0, none⟩) ps.length ncap) (s7 : sl a 7 = .slice (some ⟨ib, 0, none⟩) ps.length icap)
    (s10 : sl a 10 = .int .i32 (s : Int)) (s12 : sl a 12 = .int .u8 (b : Int))
    (hK : ∀ a' w' pb' pcap' qb' qcap' nb' ncap' ib' icap', Fr 285 a' → Row w' 21 pb' pcap' (ps ++ [.int .i32 (s : Int)]) → Row w' 5 qb' qcap' (qs ++ [.int .u8 (b : Int)]) → Row w' 21 nb' ncap' (ns ++ [.int .i32 (L + 1)]) → Row w' 21 ib' icap' (is ++ [.int .i32 (-1)]) →
      Str w' sb rt mb nilS nilS nilS → MapIs w' mb n g → pb' ≠ nb' → pb' ≠ ib' → nb' ≠ ib' → (B ≤ pb' ∧ B ≤ qb' ∧ B ≤ nb' ∧ B ≤ ib') → Below B w w' →
      sl a' 4 = .slice (some ⟨pb', 0, none⟩) (ps.length + 1) pcap' → sl a' 5 = .slice (some ⟨qb', 0, none⟩) (ps.length + 1) qcap' → sl a' 6 = .slice (some ⟨nb', 0, none⟩) (ps.length + 1) ncap' → sl a' 7 = .slice (some ⟨ib', 0, none⟩) (ps.length + 1) icap' →
      sl a' 13 = .int .i32 (ps.length : Int) → (∀ i, i ∈ [3, 8, 9, 10, 11, 12, 14, 32, 33, 34] → sl a' i = sl a i) → c.wp Try.prog Q a' w') :
    Code.wp Try.prog (.seq (cl (pN (bodyOf Try.f47))) (.seq (cl (cr (pN (bodyOf Try.f47)))) (.seq (cl (cr (cr (pN (bodyOf Try.f47))))) c))) Q a w := by
  have hpq := hp.ne_type hq (by decide)
  have hnq := hn.ne_type hq (by decide)
  have hiq := hi.ne_type hq (by decide)
  have hpS := hp.ne_str hS (by decide)
  have hqS := hq.ne_str hS (by decide)
  have hnS := hn.ne_str hS (by decide)
  have hiS := hi.ne_str hS (by decide)
  have hpM := hp.ne_map hM
  have hqM := hq.ne_map hM
  have hnM := hn.ne_map hM
  have hiM := hi.ne_map hM
  have hnlt := hn.lt
  have hilt := hi.lt
  have hBel := Below.refl B w
  have e := fr285 hF
  simp only [s4, s5, s6, s7, s10, s12] at e
  have H10 := keep s10
  have H12 := keep s12
  have HK := keep hK
  rw [e]
  clear e s4 s5 s6 s7 s10 s12 hK
  conv => arg 2; arg 1; whnf
  conv => arg 2; arg 2; arg 1; whnf
  conv => arg 2; arg 2; arg 2; arg 1; whnf
  go_wp2_with (first
    | (at_builtin; refine wpList_app _ rfl (.tmp 61) (.tmp 63) 46 rfl 21 (.int .i32 0) 4 Try.underlying46 info21 rfl pb pcap ps rfl (hp.alloc _) w.heap.size 1 (.int .i32 (s : Int)) rfl (by simp) rfl (by omega) (by unfold maxLen; omega) ?_; intro g1 c1 w1 hp1 hg1 hl1; have z1 := hg1.size; rw [World.size_alloc] at hl1 z1; have hq1 := hq.go hg1 hpq.symm; have hn1 := hn.go hg1 pn.symm; have hi1 := hi.go hg1 pi.symm; have hS1 := hS.go hg1 hpS.symm; have hM1 := hM.go hg1 hpM.symm; have hb1 := Below.go hBel hg1 hB lo.1)
    | (at_builtin; refine wpList_app _ rfl (.tmp 65) (.tmp 67) 82 rfl 5 (.int .u8 0) 1 Try.underlying82 info5 rfl qb qcap qs (by rw [hql]; rfl) (hq1.alloc _) w1.heap.size 1 (.int .u8 (b : Int)) rfl (by simp) rfl (by omega) (by unfold maxLen; omega) ?_; intro g2 c2 w2 hq2 hg2 hl2; have z2 := hg2.size; rw [World.size_alloc] at hl2 z2; have hp2 := hp1.go hg2 (hp1.ne_type hq1 (by decide)); have hn2 := hn1.go hg2 hnq; have hi2 := hi1.go hg2 hiq; have hS2 := hS1.go hg2 hqS.symm; have hM2 := hM1.go hg2 hqM.symm; have hb2 := Below.go hb1 hg2 (by have := hb1.size; omega) lo.2.1; have hc2 := hn2.cellD hns)
    | (at_builtin; refine wpList_app _ rfl (.tmp 69) (.tmp 75) 46 rfl 21 (.int .i32 0) 4 Try.underlying46 info21 rfl nb ncap ns (by rw [hnl]; rfl) (hn2.alloc _) w2.heap.size 1 (.int .i32 (L + 1)) rfl (by simp) rfl (by omega) (by unfold maxLen; omega) ?_; intro g3 c3 w3 hn3 hg3 hl3; have z3 := hg3.size; rw [World.size_alloc] at hl3 z3; have hp3 := hp2.go hg3 (ne_of_loc hl1 pn (by omega)); have hq3 := hq2.go hg3 (hn2.ne_type hq2 (by decide)).symm; have hi3 := hi2.go hg3 ni.symm; have hS3 := hS2.go hg3 hnS.symm; have hM3 := hM2.go hg3 hnM.symm; have hb3 := Below.go hb2 hg3 (by have := hb2.size; omega) lo.2.2.1)
    | (at_builtin; refine wpList_app _ rfl (.tmp 77) (.tmp 78) 46 rfl 21 (.int .i32 0) 4 Try.underlying46 info21 rfl ib icap is (by rw [hil]; rfl) (hi3.alloc _) w3.heap.size 1 (.int .i32 (-1)) rfl (by simp) rfl (by omega) (by unfold maxLen; omega) ?_; intro g4 c4 w4 hi4 hg4 hl4; have z4 := hg4.size; rw [World.size_alloc] at hl4 z4; have hp4 := hp3.go hg4 (ne_of_loc hl1 pi (by omega)); have hq4 := hq3.go hg4 (hi3.ne_type hq3 (by decide)).symm; have hn4 := hn3.go hg4 (ne_of_loc hl3 ni (by have := hi2.lt; omega)); have hS4 := hS3.go hg4 hiS.symm; have hM4 := hM3.go hg4 hiM.symm; have hb4 := Below.go hb3 hg4 (by have := hb3.size; omega) lo.2.2.2)
    | fail)
  refine HK.out _ w4 g1 c1 g2 c2 g3 c3 g4 c4 ⟨rfl, rfl⟩ hp4 hq4 hn4 hi4 hS4 hM4 ?_ ?_ ?_ ?_ hb4 rfl (by rw [← hql]; rfl) (by rw [← hnl]; rfl) (by rw [← hil]; rfl) rfl ?_
  · have := hp2.lt; omega
  · have := hp3.lt; omega
  · have := hn3.lt; omega
  · omega
  · intro i hi
    simp only [List.mem_cons, List.not_mem_nil, or_false] at hi
    rcases hi with rfl | rfl | rfl | rfl | rfl | rfl | rfl | rfl | rfl | rfl
    all_goals first | rfl | exact H10.out.symm | exact H12.out.symm
end Go.Proofs.Qxb6000411a
