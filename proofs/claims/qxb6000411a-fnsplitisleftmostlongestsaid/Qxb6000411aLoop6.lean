/-
  newStringSet: the loops over the levels, closed (stringset.go:69 to 83).
-/
import Derived.Test.Qxb6000411aLoop5
namespace Go.Proofs.Qxb6000411a
open Go.RowKit Go.Maps Pl
set_option linter.unusedVariables false

section
variable {B : Nat} {w3 : World} {tx strs : List (List UInt8)} {sb mb k pb pcap qb qcap nb ncap ib icap fb gb eb : Nat}

theorem loop6 (hX : CX B w3 tx strs sb mb k pb pcap qb qcap nb ncap ib icap fb gb eb) {n : Nat} (hn : 1 ≤ n) {g c : Nat} (hlev : lev tx tx.length n ≠ [] → Row w3 21 g c (ints (lev tx tx.length n)) ∧ g < B) {a0 a : Act} {w : World} (h : I6 B w3 tx strs fb gb eb n a0 0 a w)
    (s3 : sl a0 3 = .pointer (some ⟨sb, 0, none⟩)) (s4 : sl a0 4 = .slice (some ⟨pb, 0, none⟩) tx.length pcap) (s5 : sl a0 5 = .slice (some ⟨qb, 0, none⟩) tx.length qcap) (s6 : sl a0 6 = .slice (some ⟨nb, 0, none⟩) tx.length ncap) (s7 : sl a0 7 = .slice (some ⟨ib, 0, none⟩) tx.length icap)
    (s171 : sl a0 171 = lvV (lev tx tx.length n) g c) (s172 : sl a0 172 = .int .i64 ((lev tx tx.length n).length : Int)) (Q : Exit → Act → World → Prop)
    (hQ : ∀ a' w', I6 B w3 tx strs fb gb eb n a0 (lev tx tx.length n).length a' w' → Q .normal a' w') : Code.wp Try.prog (cr (cr (ci (cl (cr (cr (pL5 (bodyOf Try.f47)))))))) Q a w := by
  show Code.wp Try.prog (.block 10 (.loop (pL6 (bodyOf Try.f47)))) Q a w
  refine wp_block ?_
  refine wp_loop (fun a w => ∃ q, q ≤ (lev tx tx.length n).length ∧ I6 B w3 tx strs fb gb eb n a0 q a w) (fun a _ => (lev tx tx.length n).length - (intOf (sl a 173)).toNat) ⟨0, Nat.zero_le _, h⟩ ?_
  rintro a w ⟨q, hq, hI⟩
  by_cases hlt : q < (lev tx tx.length n).length
  · have hne : lev tx tx.length n ≠ [] := by intro e; rw [e] at hlt; simp at hlt
    have t171 : sl a0 171 = .slice (some ⟨g, 0, none⟩) (lev tx tx.length n).length c := by rw [s171, lvV, if_neg hne]
    refine round6_go hX hn hlt (hlev hne).1 (hlev hne).2 hI s3 s4 s5 s6 s7 t171 s172 _ ?_
    intro a' w' hI'
    refine ⟨⟨q + 1, hlt, hI'⟩, ?_⟩
    show (lev tx tx.length n).length - (intOf (sl a' 173)).toNat < (lev tx tx.length n).length - (intOf (sl a 173)).toNat
    rw [hI.s173, hI'.s173]
    simp only [intOf]
    omega
  · obtain rfl : q = (lev tx tx.length n).length := by omega
    refine round6_end hI s172 _ ?_
    intro a' hI'
    show Exit.inBlock 10 Q (.exit 10) a' w
    simp only [Exit.inBlock, if_true]
    exact hQ a' w hI'

/-- At the head of the loop over the levels, t of them done (from the first on). -/
structure I5 (B : Nat) (w3 : World) (tx strs : List (List UInt8)) (fb gb eb : Nat) (a0 : Act) (t : Nat) (a : Act) (w : World) : Prop where
  fr : Fr 285 a
  keeps : Keeps [3, 4, 5, 6, 7, 165, 166] a0 a
  s167 : sl a 167 = .int .i64 (t : Int)
  below : Below B w3 w
  rows : R3 w tx strs (dnq tx (t + 1) 0) fb gb eb

def rnd5 (c L5 : Code) : Code := .seq (cl L5) (.seq (cl (cr L5)) (.seq (.block 9 (.seq (cl (ci (cl (cr (cr L5))))) (.seq (cl (cr (ci (cl (cr (cr L5)))))) c))) (cr (cr (cr L5)))))
theorem rnd5_is : rnd5 (cr (cr (ci (cl (cr (cr (pL5 (bodyOf Try.f47)))))))) (pL5 (bodyOf Try.f47)) = pL5 (bodyOf Try.f47) := by kernel_rfl

set_option maxRecDepth 100000 in
set_option maxHeartbeats 1000000 in
theorem round5_end {m : Nat} {a0 a : Act} {w : World} (h : I5 B w3 tx strs fb gb eb a0 m a w) (s166 : sl a0 166 = .int .i64 (m : Int)) (Q : Exit → Act → World → Prop)
    (hQ : ∀ a', I5 B w3 tx strs fb gb eb a0 m a' w → Q (.exit 8) a' w) : Code.wp Try.prog (pL5 (bodyOf Try.f47)) Q a w := by
  obtain ⟨hfr, hk, s167, hbel, hR⟩ := h
  have t166 := (hk.at 166).trans s166
  have e := fr285 hfr
  simp only [s167, t166] at e
  have HQ := keep hQ
  have HR := keep hR
  have HK := keep hk
  have H166 := keep t166
  rw [e]
  clear e s167 t166 s166 hQ hR hk
  conv => arg 2; whnf
  go_wp2_with fail
  refine HQ.out _ ⟨⟨rfl, rfl⟩, ?_, rfl, hbel, HR.out⟩
  intro i hi
  rw [← HK.out i hi]
  simp only [List.mem_cons, List.not_mem_nil, or_false] at hi
  rcases hi with rfl | rfl | rfl | rfl | rfl | rfl | rfl
  all_goals first | rfl | exact H166.out.symm

set_option maxRecDepth 100000 in
set_option maxHeartbeats 1000000 in
theorem round5_go (hX : CX B w3 tx strs sb mb k pb pcap qb qcap nb ncap ib icap fb gb eb) {M ob ocap t : Nat} {G C : Nat → Nat} {B0 : Nat} (hL : LV B0 w3 tx tx.length M ob ocap G C) (hlow : ∀ n, n < M → lev tx tx.length n ≠ [] → G n < B) (hob : ob < B) (hM : M < 1073741824) (ht : t + 1 < M) {a0 a : Act} {w : World} (h : I5 B w3 tx strs fb gb eb a0 t a w)
    (s3 : sl a0 3 = .pointer (some ⟨sb, 0, none⟩)) (s4 : sl a0 4 = .slice (some ⟨pb, 0, none⟩) tx.length pcap) (s5 : sl a0 5 = .slice (some ⟨qb, 0, none⟩) tx.length qcap) (s6 : sl a0 6 = .slice (some ⟨nb, 0, none⟩) tx.length ncap) (s7 : sl a0 7 = .slice (some ⟨ib, 0, none⟩) tx.length icap)
    (s165 : sl a0 165 = .slice (some ⟨ob, 1, none⟩) (M - 1) (ocap - 1)) (s166 : sl a0 166 = .int .i64 ((M - 1 : Nat) : Int)) (Q : Exit → Act → World → Prop)
    (hQ : ∀ a' w', I5 B w3 tx strs fb gb eb a0 (t + 1) a' w' → Q .normal a' w') : Code.wp Try.prog (pL5 (bodyOf Try.f47)) Q a w := by
  obtain ⟨hfr, hk, s167, hbel, hR⟩ := h
  have hcv : w.cell? ⟨ob, 1 + t, none⟩ = some (lvV (lev tx tx.length (t + 1)) (G (t + 1)) (C (t + 1))) := by
    rw [hbel.cell (p := ⟨ob, 1 + t, none⟩) hob]
    refine hL.out.cellD ?_
    rw [Nat.add_comm 1 t]
    simp [ht]
  have hll := lev_len tx tx.length (t + 1)
  have hfew := hX.few
  have t165 := (hk.at 165).trans s165
  have t166 := (hk.at 166).trans s166
  have HQ := keep hQ
  have HX := keep hX
  have HR := keep hR
  have HK := keep hk
  have HL := keep (And.intro hL hlow)
  have Hs := keep (And.intro s3 (And.intro s4 (And.intro s5 (And.intro s6 s7))))
  rw [← rnd5_is]
  obtain ⟨cc, hc⟩ : ∃ c, c = cr (cr (ci (cl (cr (cr (pL5 (bodyOf Try.f47))))))) := ⟨_, rfl⟩
  rw [← hc]
  have Hc := keep hc
  have e := fr285 hfr
  simp only [s167, t165, t166] at e
  rw [e]
  have H165 := keep t165
  have H166 := keep t166
  have ht1 : t < M - 1 := by omega
  clear e s167 t165 t166 s165 s166 hQ hR hk hc hX s3 s4 s5 s6 s7 hL hlow
  have hlen : ∀ (W : World), (Builtin.len_ #[46] 3 #[lvV (lev tx tx.length (t + 1)) (G (t + 1)) (C (t + 1))]).run Try.prog W = .ok (.int .i64 ((lev tx tx.length (t + 1)).length : Int)) W := by
    intro W
    unfold lvV
    by_cases hz : lev tx tx.length (t + 1) = []
    · rw [if_pos hz, hz]; rfl
    · rw [if_neg hz]; rfl
  generalize hvv : lvV (lev tx tx.length (t + 1)) (G (t + 1)) (C (t + 1)) = vv at hcv hlen
  have Hvv := keep hvv
  clear hvv
  unfold rnd5
  conv => arg 2; arg 1; whnf
  conv => arg 2; arg 2; arg 1; whnf
  conv => arg 2; arg 2; arg 2; arg 1; arg 2; arg 1; whnf
  conv => arg 2; arg 2; arg 2; arg 1; arg 2; arg 2; arg 1; whnf
  conv => arg 2; arg 2; arg 2; arg 2; whnf
  go_wp2_with fail
  rename_i K1 hK1
  rw [Hc.out]
  obtain ⟨s3, s4, s5, s6, s7⟩ := Hs.out
  have hk := HK.out
  obtain ⟨hL, hlow⟩ := HL.out
  refine loop6 HX.out (n := t + 1) (by omega) (g := G (t + 1)) (c := C (t + 1)) (fun hne => ⟨(hL.inn _ ht hne).1, hlow _ ht hne⟩) ⟨⟨rfl, rfl⟩, fun _ _ => rfl, rfl, hbel, HR.out⟩ (by exact (hk.at 3).trans s3) (by exact (hk.at 4).trans s4) (by exact (hk.at 5).trans s5) (by exact (hk.at 6).trans s6) (by exact (hk.at 7).trans s7) (by exact Hvv.out.symm) (by rfl) _ ?_
  intro a2 w2 hI
  refine hK1 a2 w2 ?_
  obtain ⟨hF2, hk2, _, hb2, hR2⟩ := hI
  have t167 : sl a2 167 = .int .i64 (t : Int) := hk2.at 167
  have hk3 : Keeps [3, 4, 5, 6, 7, 165, 166] a0 a2 := by
    intro i hi
    rw [hk2 i (by simp only [k6, List.mem_cons, List.not_mem_nil, or_false] at hi ⊢; omega), ← hk i hi]
    simp only [List.mem_cons, List.not_mem_nil, or_false] at hi
    rcases hi with rfl | rfl | rfl | rfl | rfl | rfl | rfl
    all_goals first | rfl | exact H165.out.symm | exact H166.out.symm
  have HK3 := keep hk3
  have HR2 := keep (hR2.congr (dnq_end (n := t + 1) HX.out.trie))
  have e2 := fr285 hF2
  simp only [t167] at e2
  rw [e2]
  clear e2 t167 hk3 hk2 hR2 hK1 hF2 hk hL hlow
  go_wp2_with fail
  refine HQ.out _ _ ⟨⟨rfl, rfl⟩, ?_, by show _ = _; go_num, hb2, HR2.out⟩
  intro i hi
  rw [← HK3.out i hi]
  simp only [List.mem_cons, List.not_mem_nil, or_false] at hi
  rcases hi with rfl | rfl | rfl | rfl | rfl | rfl | rfl
  all_goals rfl

theorem loop5 (hX : CX B w3 tx strs sb mb k pb pcap qb qcap nb ncap ib icap fb gb eb) {M ob ocap : Nat} {G C : Nat → Nat} {B0 : Nat} (hL : LV B0 w3 tx tx.length M ob ocap G C) (hlow : ∀ n, n < M → lev tx tx.length n ≠ [] → G n < B) (hob : ob < B) (hM : M < 1073741824) (hM1 : 1 ≤ M) {a0 a : Act} {w : World} (h : I5 B w3 tx strs fb gb eb a0 0 a w)
    (s3 : sl a0 3 = .pointer (some ⟨sb, 0, none⟩)) (s4 : sl a0 4 = .slice (some ⟨pb, 0, none⟩) tx.length pcap) (s5 : sl a0 5 = .slice (some ⟨qb, 0, none⟩) tx.length qcap) (s6 : sl a0 6 = .slice (some ⟨nb, 0, none⟩) tx.length ncap) (s7 : sl a0 7 = .slice (some ⟨ib, 0, none⟩) tx.length icap)
    (s165 : 2 ≤ M → sl a0 165 = .slice (some ⟨ob, 1, none⟩) (M - 1) (ocap - 1)) (s166 : sl a0 166 = .int .i64 ((M - 1 : Nat) : Int)) (Q : Exit → Act → World → Prop)
    (hQ : ∀ a' w', I5 B w3 tx strs fb gb eb a0 (M - 1) a' w' → Q .normal a' w') : Code.wp Try.prog (pF (bodyOf Try.f47)) Q a w := by
  show Code.wp Try.prog (.block 8 (.loop (pL5 (bodyOf Try.f47)))) Q a w
  refine wp_block ?_
  refine wp_loop (fun a w => ∃ t, t ≤ M - 1 ∧ I5 B w3 tx strs fb gb eb a0 t a w) (fun a _ => M - 1 - (intOf (sl a 167)).toNat) ⟨0, Nat.zero_le _, h⟩ ?_
  rintro a w ⟨t, ht, hI⟩
  by_cases hlt : t < M - 1
  · refine round5_go hX hL hlow hob hM (by omega) hI s3 s4 s5 s6 s7 (s165 (by omega)) s166 _ ?_
    intro a' w' hI'
    refine ⟨⟨t + 1, hlt, hI'⟩, ?_⟩
    show M - 1 - (intOf (sl a' 167)).toNat < M - 1 - (intOf (sl a 167)).toNat
    rw [hI.s167, hI'.s167]
    simp only [intOf]
    omega
  · obtain rfl : t = M - 1 := by omega
    refine round5_end hI s166 _ ?_
    intro a' hI'
    show Exit.inBlock 8 Q (.exit 8) a' w
    simp only [Exit.inBlock, if_true]
    exact hQ a' w hI'
end
end Go.Proofs.Qxb6000411a
