/-
  newStringSet: the loops that sort the states by their lengths (stringset.go:60 to 65).
-/
import Derived.Test.Qxb6000411aLevels
namespace Go.Proofs.Qxb6000411a
open Go.RowKit Go.Maps Pl

def pD (b : Code) : Code := cr (cr (cr (cr b)))
def pE (b : Code) : Code := cr (cr (pD b))
def pL3 (b : Code) : Code := ci (ci (cr (cl (cr (pD b)))))
def pZ (b : Code) : Code := ci (cl (cr (cr (pL3 b))))
def pL4 (b : Code) : Code := ci (ci (cl (cr (pZ b))))

theorem info46 : (Try.prog.info? 46).map (fun i => (i.zero, i.size, i.bytes)) = some (some nilS, 1, 24) := by kernel_rfl

def k3 : List Nat := [3, 4, 5, 6, 7, 16, 17, 112, 113, 114]
structure I4 (B : Nat) (a0 : Act) (w0 : World) (tx : List (List UInt8)) (j M : Nat) (a : Act) (w : World) : Prop where
  fr : Fr 285 a
  keeps : Keeps k3 a0 a
  lv : ∃ ob ocap G C, LV B w tx j M ob ocap G C ∧ sl a 15 = .slice (some ⟨ob, 0, none⟩) M ocap
  below : Below B w0 w

section
variable {B : Nat} {a0 : Act} {w0 : World} {tx : List (List UInt8)} {j M n : Nat}
set_option maxRecDepth 100000 in
set_option maxHeartbeats 1000000 in
theorem round4_end {a : Act} {w : World} (h : I4 B a0 w0 tx j M a w) (s17 : sl a0 17 = .int .i32 (n : Int)) (hn : n < M) (hM : M < 1073741824) (Q : Exit → Act → World → Prop)
    (hQ : ∀ a', I4 B a0 w0 tx j M a' w → Q (.exit 6) a' w) : Code.wp Try.prog (pL4 (bodyOf Try.f47)) Q a w := by
  obtain ⟨hfr, hk, ⟨ob, ocap, G, C, hL, s15⟩, hbel⟩ := h
  have t17 := (hk.at 17).trans s17
  have e := fr285 hfr
  simp only [s15, t17] at e
  have HQ := keep hQ
  have HL := keep hL
  have HK := keep hk
  have H17 := keep t17
  rw [e]
  clear e s15 t17 s17 hQ hL hk
  conv => arg 2; whnf
  go_wp2_with fail
  refine HQ.out _ ⟨⟨rfl, rfl⟩, ?_, ⟨ob, ocap, G, C, HL.out, rfl⟩, hbel⟩
  intro i hi
  rw [← HK.out i hi]
  simp only [k3, List.mem_cons, List.not_mem_nil, or_false] at hi
  rcases hi with rfl | rfl | rfl | rfl | rfl | rfl | rfl | rfl | rfl | rfl
  all_goals first | rfl | exact H17.out.symm

set_option maxRecDepth 100000 in
set_option maxHeartbeats 1000000 in
theorem round4_go {a : Act} {w : World} (h : I4 B a0 w0 tx j M a w) (s17 : sl a0 17 = .int .i32 (n : Int)) (hn : M ≤ n) (hn2 : n < 1073741824) (hB : B ≤ w0.heap.size) (Q : Exit → Act → World → Prop)
    (hQ : ∀ a' w', I4 B a0 w0 tx j (M + 1) a' w' → Q .normal a' w') : Code.wp Try.prog (pL4 (bodyOf Try.f47)) Q a w := by
  obtain ⟨hfr, hk, ⟨ob, ocap, G, C, hL, s15⟩, hbel⟩ := h
  have t17 := (hk.at 17).trans s17
  have e := fr285 hfr
  simp only [s15, t17] at e
  have HQ := keep hQ
  have HL := keep hL
  have HK := keep hk
  have H17 := keep t17
  have hrow := hL.out
  have hlen : ((List.range M).map fun n => lvV (lev tx j n) (G n) (C n)).length = M := by simp
  generalize hxs : ((List.range M).map fun n => lvV (lev tx j n) (G n) (C n)) = xs at hrow hlen
  have Hxs := keep hxs
  have Hlen := keep hlen
  have hM : M < 1073741824 := by omega
  rw [e]
  clear e s15 t17 s17 hQ hL hk hxs hlen
  conv => arg 2; whnf
  go_wp2_with (first
    | (at_builtin; refine wpList_app _ rfl (.tmp 124) (.tmp 125) 87 rfl 46 nilS 24 Try.underlying87 info46 rfl ob ocap xs (by rw [Hlen.out]; rfl) (hrow.alloc _) w.heap.size 1 nilS rfl (by simp [nilS]) rfl (by rw [Hlen.out]; omega) (by rw [Hlen.out]; unfold maxLen; omega) ?_; intro g1 c1 w1 hp1 hg1 hl1; rw [World.size_alloc] at hl1; rw [Hlen.out])
    | fail)
  have hBw : B ≤ w.heap.size := Nat.le_trans hB hbel.size
  rw [← Hxs.out] at hp1
  refine HQ.out _ _ ⟨⟨rfl, rfl⟩, ?_, ⟨g1, c1, G, C, HL.out.nilMore hp1 hg1 hl1 hBw, rfl⟩, Below.go hbel hg1 hBw HL.out.lo⟩
  intro i hi
  rw [← HK.out i hi]
  simp only [k3, List.mem_cons, List.not_mem_nil, or_false] at hi
  rcases hi with rfl | rfl | rfl | rfl | rfl | rfl | rfl | rfl | rfl | rfl
  all_goals first | rfl | exact H17.out.symm

theorem loop4 {a : Act} {w : World} (h : I4 B a0 w0 tx j M a w) (s17 : sl a0 17 = .int .i32 (n : Int)) (hn : n < 1073741823) (hM : M < 1073741824) (hB : B ≤ w0.heap.size) (Q : Exit → Act → World → Prop)
    (hQ : ∀ a' w' M', I4 B a0 w0 tx j M' a' w' → n < M' → M' < 1073741824 → Q .normal a' w') : Code.wp Try.prog (cl (cr (pZ (bodyOf Try.f47)))) Q a w := by
  show Code.wp Try.prog (.block 6 (.loop (pL4 (bodyOf Try.f47)))) Q a w
  refine wp_block ?_
  refine wp_loop (fun a w => ∃ M, M < 1073741824 ∧ I4 B a0 w0 tx j M a w) (fun a _ => n + 1 - (match sl a 15 with | .slice _ l _ => l | _ => 0)) ⟨M, hM, h⟩ ?_
  rintro a w ⟨M, hM, hI⟩
  by_cases hlt : n < M
  · refine round4_end hI s17 hlt hM _ ?_
    intro a' hI'
    show Exit.inBlock 6 Q (.exit 6) a' w
    simp only [Exit.inBlock, if_true]
    exact hQ a' w M hI' hlt hM
  · refine round4_go hI s17 (by omega) (by omega) hB _ ?_
    intro a' w' hI'
    refine ⟨⟨M + 1, by omega, hI'⟩, ?_⟩
    obtain ⟨_, _, ⟨ob, ocap, G, C, _, e1⟩, _⟩ := hI
    obtain ⟨_, _, ⟨ob', ocap', G', C', _, e2⟩, _⟩ := hI'
    simp only [e1, e2]
    show n + 1 - (M + 1) < n + 1 - M
    omega
end

/-- At the head of the loop over the states, j of them done. -/
structure I3 (B : Nat) (a0 : Act) (w0 : World) (tx : List (List UInt8)) (nb ncap j M : Nat) (a : Act) (w : World) : Prop where
  fr : Fr 285 a
  keeps : Keeps [3, 4, 5, 6, 7] a0 a
  s112 : sl a 112 = .slice (some ⟨nb, 0, none⟩) tx.length ncap
  s113 : sl a 113 = .int .i64 (tx.length : Int)
  s114 : sl a 114 = .int .i64 (j : Int)
  lv : ∃ ob ocap G C, LV B w tx j M ob ocap G C ∧ sl a 15 = .slice (some ⟨ob, 0, none⟩) M ocap
  below : Below B w0 w

def rnd3 (c L3 : Code) : Code := .seq (cl L3) (.seq (cl (cr L3)) (.seq (.block 5 (.seq (cl (ci (cl (cr (cr L3))))) (.seq c (cr (cr (ci (cl (cr (cr L3)))))))) ) (cr (cr (cr L3)))))
theorem rnd3_is : rnd3 (cl (cr (pZ (bodyOf Try.f47)))) (pL3 (bodyOf Try.f47)) = pL3 (bodyOf Try.f47) := by kernel_rfl

section
variable {B : Nat} {a0 : Act} {w0 : World} {tx : List (List UInt8)} {nb ncap j M : Nat}
set_option maxRecDepth 100000 in
set_option maxHeartbeats 1000000 in
theorem round3_end {a : Act} {w : World} (h : I3 B a0 w0 tx nb ncap tx.length M a w) (Q : Exit → Act → World → Prop)
    (hQ : ∀ a', I3 B a0 w0 tx nb ncap tx.length M a' w → Q (.exit 4) a' w) : Code.wp Try.prog (pL3 (bodyOf Try.f47)) Q a w := by
  obtain ⟨hfr, hk, s112, s113, s114, ⟨ob, ocap, G, C, hL, s15⟩, hbel⟩ := h
  have e := fr285 hfr
  simp only [s112, s113, s114, s15] at e
  have HQ := keep hQ
  have HL := keep hL
  have HK := keep hk
  rw [e]
  clear e s15 s112 s113 s114 hQ hL hk
  conv => arg 2; whnf
  go_wp2_with fail
  refine HQ.out _ ⟨⟨rfl, rfl⟩, ?_, rfl, rfl, rfl, ⟨ob, ocap, G, C, HL.out, rfl⟩, hbel⟩
  intro i hi
  rw [← HK.out i hi]
  simp only [List.mem_cons, List.not_mem_nil, or_false] at hi
  rcases hi with rfl | rfl | rfl | rfl | rfl
  all_goals rfl

set_option maxRecDepth 100000 in
set_option maxHeartbeats 4000000 in
theorem round3_go (hT : tx.length < 1073741824) (hshort : ∀ u, u ∈ tx → u.length < 1073741823) (hlen : Row w0 21 nb ncap (tx.map fun u => .int .i32 (u.length : Int))) (hnb : nb < B) (hB : B ≤ w0.heap.size) (hj : j < tx.length) {a : Act} {w : World} (h : I3 B a0 w0 tx nb ncap j M a w) (hM : M < 1073741824) (Q : Exit → Act → World → Prop)
    (hQ : ∀ a' w' M', I3 B a0 w0 tx nb ncap (j + 1) M' a' w' → M' < 1073741824 → Q .normal a' w') : Code.wp Try.prog (pL3 (bodyOf Try.f47)) Q a w := by
  obtain ⟨hfr, hk, s112, s113, s114, ⟨ob, ocap, G, C, hL, s15⟩, hbel⟩ := h
  have hlw : Row w 21 nb ncap (tx.map fun u => .int .i32 (u.length : Int)) := hlen.same (hbel.block nb hnb)
  have hmj : tx[j] ∈ tx := List.getElem_mem hj
  have hln : lnAt tx j = tx[j].length := by simp [lnAt, hj]
  have hcj := hlw.cellD (i := j) (x := .int .i32 (lnAt tx j : Int)) (by rw [hln]; simp [hj])
  have hsj := hshort _ hmj
  rw [← hln] at hsj
  have HQ := keep hQ
  have HL := keep hL
  have HK := keep hk
  rw [← rnd3_is]
  obtain ⟨c, hc⟩ : ∃ c, c = cl (cr (pZ (bodyOf Try.f47))) := ⟨_, rfl⟩
  rw [← hc]
  have Hc := keep hc
  have e := fr285 hfr
  simp only [s112, s113, s114, s15] at e
  rw [e]
  clear e s15 s112 s113 s114 hQ hL hk hc hln hmj hlw hshort
  unfold rnd3
  conv => arg 2; arg 1; whnf
  conv => arg 2; arg 2; arg 1; whnf
  conv => arg 2; arg 2; arg 2; arg 1; arg 2; arg 1; whnf
  conv => arg 2; arg 2; arg 2; arg 1; arg 2; arg 2; arg 2; whnf
  conv => arg 2; arg 2; arg 2; arg 2; whnf
  go_wp2_with fail
  rename_i K1 hK1 K2 hK2
  rw [Hc.out]
  refine loop4 (B := B) (w0 := w) (tx := tx) (j := j) (M := M) (n := lnAt tx j) ⟨⟨rfl, rfl⟩, fun _ _ => rfl, ⟨ob, ocap, G, C, HL.out, rfl⟩, Below.refl _ _⟩ rfl hsj hM (Nat.le_trans hB hbel.size) _ ?_
  intro a2 w2 M2 hI hn2 hM2
  refine hK2 a2 w2 ?_
  obtain ⟨hfr2, hk2, ⟨ob2, ocap2, G2, C2, hL2, t15⟩, hbel2⟩ := hI
  have t16 : sl a2 16 = .int .i64 (j : Int) := hk2.at 16
  have t17 : sl a2 17 = .int .i32 (lnAt tx j : Int) := hk2.at 17
  have t112 : sl a2 112 = .slice (some ⟨nb, 0, none⟩) tx.length ncap := hk2.at 112
  have t113 : sl a2 113 = .int .i64 (tx.length : Int) := hk2.at 113
  have t114 : sl a2 114 = .int .i64 (j : Int) := hk2.at 114
  have hk3 : Keeps [3, 4, 5, 6, 7] a0 a2 := by
    intro i hi
    rw [← HK.out i hi]
    simp only [List.mem_cons, List.not_mem_nil, or_false] at hi
    rcases hi with rfl | rfl | rfl | rfl | rfl
    · exact hk2.at 3
    · exact hk2.at 4
    · exact hk2.at 5
    · exact hk2.at 6
    · exact hk2.at 7
  have HK3 := keep hk3
  have hbb : Below B w0 w2 := hbel.trans hbel2
  have hBw : B ≤ w2.heap.size := Nat.le_trans hB hbb.size
  have hco := hL2.out.cellD (i := lnAt tx j) (x := lvV (lev tx j (lnAt tx j)) (G2 (lnAt tx j)) (C2 (lnAt tx j))) (by simp [hn2])
  have hfo : ∀ w, w2.grownBy w (if lev tx j (lnAt tx j) = [] then none else some (G2 (lnAt tx j))) → w.frozen? ⟨ob2, lnAt tx j, none⟩ = false ∧ w.cell? ⟨ob2, lnAt tx j, none⟩ = some (lvV (lev tx j (lnAt tx j)) (G2 (lnAt tx j)) (C2 (lnAt tx j))) := by
    intro w hg
    have hr := hL2.out.kept hg (by
      split
      · simp
      · rename_i hne
        simpa using ((hL2.inn _ hn2 hne).1.ne_type hL2.out (by decide)).symm)
    exact ⟨hr.free _, hr.cellD (by simp [hn2])⟩
  have HL2 := keep hL2
  have Hfo := keep hfo
  have e2 := fr285 hfr2
  simp only [t15, t16, t17, t112, t113, t114] at e2
  rw [e2]
  clear e2 t15 t16 t17 t112 t113 t114 hk2 hk3 HK hbel2 hbel HL hL2 hfr2 hcj hK2 hfo
  by_cases hle : lev tx j (lnAt tx j) = []
  · simp only [lvV, hle, if_true] at hco Hfo
    have Hle := keep hle
    clear hle
    unfold nilS at hco
    go_wp2_with (first
      | (at_builtin; refine wpList_app0 _ rfl (.tmp 132) (.tmp 135) 46 rfl 21 (.int .i32 0) 4 Try.underlying46 info21 rfl rfl w2.heap.size 1 1 [.int .i32 (j : Int)] rfl rfl (by decide) (by intro k u hk; match k, hk with | 0, hk => simp at hk; subst hk; simp) (by intro u hu; simp at hu; subst hu; rfl) (by decide) (by decide) ?_; intro c1 w3 hp1 hg1; rw [World.size_alloc] at hp1 ⊢; obtain ⟨f1, f2⟩ := Hfo.out w3 ((World.grownBy_alloc w2 _ none).trans hg1); unfold nilS at f2)
      | fail)
    have hbw3 : Below B w0 w3 := (hbb.alloc hBw _).grown hg1 (by rw [World.size_alloc]; omega) (fun k e => by cases e)
    have hL3 := HL2.out.more hn2 (o := Obj.cells #[Value.int IntKind.i32 (j : Int)] 21) (w' := w3) (g := w2.heap.size + 1) (c := c1) (by rw [Hle.out]; exact hp1) hg1 (.inl ⟨Hle.out, rfl, rfl⟩) hBw
    rw [Hle.out] at hL3
    refine HQ.out _ _ M2 ⟨⟨rfl, rfl⟩, ?_, rfl, rfl, by go_num, ⟨ob2, ocap2, _, _, hL3, rfl⟩, hbw3.setCell HL2.out.lo _⟩ hM2
    intro i hi
    rw [← HK3.out i hi]
    simp only [List.mem_cons, List.not_mem_nil, or_false] at hi
    rcases hi with rfl | rfl | rfl | rfl | rfl
    all_goals rfl
  · have hin := HL2.out.inn _ hn2 hle
    have hlv : lvV (lev tx j (lnAt tx j)) (G2 (lnAt tx j)) (C2 (lnAt tx j)) = .slice (some ⟨G2 (lnAt tx j), 0, none⟩) (ints (lev tx j (lnAt tx j))).length (C2 (lnAt tx j)) := by
      simp [lvV, hle, ints]
    rw [hlv] at hco Hfo
    rw [if_neg hle] at Hfo
    have hll : (ints (lev tx j (lnAt tx j))).length ≤ j := by
      have := lev_len tx j (lnAt tx j)
      simpa [ints] using this
    have Hle := keep hle
    have HL3 := keep (fun (w' : World) (g c : Nat) => HL2.out.more hn2 (o := Obj.cells #[Value.int IntKind.i32 (j : Int)] 21) (w' := w') (g := g) (c := c))
    have hrow := hin.1
    have hgB := hin.2
    have hile : (ints (lev tx j (lnAt tx j))).length = (lev tx j (lnAt tx j)).length := by simp [ints]
    have Hile := keep hile
    clear hle hlv hin hile
    generalize hxs : ints (lev tx j (lnAt tx j)) = xs at *
    have Hxs := keep hxs
    clear hxs
    generalize hg2 : G2 (lnAt tx j) = g2 at *
    have Hg2 := keep hg2
    clear hg2
    generalize C2 (lnAt tx j) = c2 at *
    go_wp2_with (first
      | (at_builtin; refine wpList_app _ rfl (.tmp 132) (.tmp 135) 46 rfl 21 (.int .i32 0) 4 Try.underlying46 info21 rfl g2 c2 xs rfl (hrow.alloc _) w2.heap.size 1 (.int .i32 (j : Int)) rfl (by simp) rfl (by omega) (by unfold maxLen; omega) ?_; intro g3 c3 w3 hp1 hg1 hl1; rw [World.size_alloc] at hl1; obtain ⟨f1, f2⟩ := Hfo.out w3 ((World.grownBy_alloc w2 _ (some g2)).trans hg1))
      | fail)
    have hbw3 : Below B w0 w3 := (hbb.alloc hBw _).grown hg1 (by rw [World.size_alloc]; omega) (fun k e => by cases e; exact hgB)
    have hL3 := HL3.out w3 g3 c3 hp1 hg1 (.inr ⟨Hle.out, rfl, hl1⟩) hBw
    rw [← Hile.out] at hL3
    refine HQ.out _ _ M2 ⟨⟨rfl, rfl⟩, ?_, rfl, rfl, by go_num, ⟨ob2, ocap2, _, _, hL3, rfl⟩, hbw3.setCell HL2.out.lo _⟩ hM2
    intro i hi
    rw [← HK3.out i hi]
    simp only [List.mem_cons, List.not_mem_nil, or_false] at hi
    rcases hi with rfl | rfl | rfl | rfl | rfl
    all_goals rfl

theorem loop3 (hT : tx.length < 1073741824) (hshort : ∀ u, u ∈ tx → u.length < 1073741823) (hlen : Row w0 21 nb ncap (tx.map fun u => .int .i32 (u.length : Int))) (hnb : nb < B) (hB : B ≤ w0.heap.size) {a : Act} {w : World} (h : I3 B a0 w0 tx nb ncap 0 M a w) (hM : M < 1073741824) (Q : Exit → Act → World → Prop)
    (hQ : ∀ a' w' M', I3 B a0 w0 tx nb ncap tx.length M' a' w' → M' < 1073741824 → Q .normal a' w') : Code.wp Try.prog (cr (cl (cr (pD (bodyOf Try.f47))))) Q a w := by
  show Code.wp Try.prog (.block 4 (.loop (pL3 (bodyOf Try.f47)))) Q a w
  refine wp_block ?_
  refine wp_loop (fun a w => ∃ j M, j ≤ tx.length ∧ M < 1073741824 ∧ I3 B a0 w0 tx nb ncap j M a w) (fun a _ => tx.length - (intOf (sl a 114)).toNat) ⟨0, M, Nat.zero_le _, hM, h⟩ ?_
  rintro a w ⟨j, M, hj, hM, hI⟩
  by_cases hlt : j < tx.length
  · refine round3_go hT hshort hlen hnb hB hlt hI hM _ ?_
    intro a' w' M' hI' hM'
    refine ⟨⟨j + 1, M', hlt, hM', hI'⟩, ?_⟩
    show tx.length - (intOf (sl a' 114)).toNat < tx.length - (intOf (sl a 114)).toNat
    rw [hI.s114, hI'.s114]
    simp only [intOf]
    omega
  · obtain rfl : j = tx.length := by omega
    refine round3_end hI _ ?_
    intro a' hI'
    show Exit.inBlock 4 Q (.exit 4) a' w
    simp only [Exit.inBlock, if_true]
    exact hQ a' w M hI' hM
end
end Go.Proofs.Qxb6000411a
