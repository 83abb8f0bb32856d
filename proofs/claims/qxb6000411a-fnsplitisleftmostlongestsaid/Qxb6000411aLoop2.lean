/-
  newStringSet: the loop over one string's bytes (stringset.go:38 to 52).
-/
import Derived.Test.Qxb6000411aNewState2
namespace Go.Proofs.Qxb6000411a
open Go.RowKit Go.Maps Pl

/-- At the head of the loop over the bytes of s, k of them still to come. -/
structure I2 (B sb mb : Nat) (ids : List UInt8 → Int) (tx0 : List (List UInt8)) (s : ByteArray) (v8 v32 v33 v34 : Value) (w0 : World) (k : Nat) (a : Act) (w : World) : Prop where
  fr : Fr 285 a
  s3 : sl a 3 = .pointer (some ⟨sb, 0, none⟩)
  s8 : sl a 8 = v8
  s9 : sl a 9 = .string s
  s10 : sl a 10 = .int .i32 (ix (addT tx0 ((bsl s).drop k)) ((bsl s).drop k) : Int)
  s11 : sl a 11 = .int .i64 ((k : Int) - 1)
  s32 : sl a 32 = v32
  s33 : sl a 33 = v33
  s34 : sl a 34 = v34
  mem : ∃ pb pcap qb qcap nb ncap ib icap, TM B w sb mb (addT tx0 ((bsl s).drop k)) ids pb pcap qb qcap nb ncap ib icap ∧
    sl a 4 = .slice (some ⟨pb, 0, none⟩) (addT tx0 ((bsl s).drop k)).length pcap ∧ sl a 5 = .slice (some ⟨qb, 0, none⟩) (addT tx0 ((bsl s).drop k)).length qcap ∧
    sl a 6 = .slice (some ⟨nb, 0, none⟩) (addT tx0 ((bsl s).drop k)).length ncap ∧ sl a 7 = .slice (some ⟨ib, 0, none⟩) (addT tx0 ((bsl s).drop k)).length icap
  below : Below B w0 w

section
variable {B sb mb : Nat} {ids : List UInt8 → Int} {tx0 : List (List UInt8)} {s : ByteArray} {v8 v32 v33 v34 : Value} {w0 : World}

set_option maxRecDepth 100000 in
set_option maxHeartbeats 1000000 in
theorem round2_end {a : Act} {w : World} (h : I2 B sb mb ids tx0 s v8 v32 v33 v34 w0 0 a w) (Q : Exit → Act → World → Prop)
    (hQ : ∀ a', Fr 285 a' → Keeps [3, 4, 5, 6, 7, 8, 9, 10, 11, 32, 33, 34] a a' → Q (.exit 2) a' w) : Code.wp Try.prog (pL2 (bodyOf Try.f47)) Q a w := by
  have s11 := h.s11
  have e := fr285 h.fr
  simp only [s11] at e
  have HQ := keep hQ
  have H11 := keep s11
  rw [e]
  clear e s11 h hQ
  conv => arg 2; whnf
  go_wp2_with fail
  refine HQ.out _ ⟨rfl, rfl⟩ ?_
  intro i hi
  simp only [List.mem_cons, List.not_mem_nil, or_false] at hi
  rcases hi with rfl | rfl | rfl | rfl | rfl | rfl | rfl | rfl | rfl | rfl | rfl | rfl
  all_goals first | rfl | exact H11.out.symm

/-- The round's code, the new state's piece left open. -/
def rnd2 (c : Code) (L2 : Code) : Code := .seq (cl L2) (.seq (.block 3 (.seq (cl (ci (cl (cr L2)))) (.seq (cl (cr (ci (cl (cr L2))))) (.seq (.seq (cl (cl (cr (cr (ci (cl (cr L2))))))) (.cond (.tmp 57) c .skip)) (cr (cr (cr (ci (cl (cr L2)))))))))) (cr (cr L2)))
theorem rnd2_is : rnd2 (pN (bodyOf Try.f47)) (pL2 (bodyOf Try.f47)) = pL2 (bodyOf Try.f47) := by kernel_rfl

set_option maxRecDepth 100000 in
set_option maxHeartbeats 4000000 in
theorem round2_go (hT : Trie tx0) (hlen : tx0.length + s.size < 1073741824) (hids : ∀ u, u ∉ tx0 → ids u = -1) {k : Nat} (hk : k < s.size) {a : Act} {w : World} (h : I2 B sb mb ids tx0 s v8 v32 v33 v34 w0 (k + 1) a w) (Q : Exit → Act → World → Prop)
    (hQ : ∀ a' w', I2 B sb mb ids tx0 s v8 v32 v33 v34 w0 k a' w' → Q .normal a' w') : Code.wp Try.prog (pL2 (bodyOf Try.f47)) Q a w := by
  obtain ⟨hfr, s3, s8, s9, s10, s11, s32, s33, s34, ⟨pb, pcap, qb, qcap, nb, ncap, ib, icap, hM, s4, s5, s6, s7⟩, hbel⟩ := h
  have hd := bsl_drop s k hk
  have hT1 := addT_trie hT ((bsl s).drop (k + 1))
  have hl1 := addT_len (tx := tx0) ((bsl s).drop (k + 1))
  rw [List.length_drop, bsl_len] at hl1
  have hu := addT_mem hT.nil_mem ((bsl s).drop (k + 1))
  have hch := child_any sb s[k] w hT1 (by omega) hu hM.str hM.map
  have hsn : addT tx0 ((bsl s).drop k) = if (bsl s).drop k ∈ addT tx0 ((bsl s).drop (k + 1)) then addT tx0 ((bsl s).drop (k + 1)) else addT tx0 ((bsl s).drop (k + 1)) ++ [(bsl s).drop k] := by
    rw [hd]; rfl
  have HQ := keep hQ
  rw [← rnd2_is]
  obtain ⟨c, hc⟩ : ∃ c, c = pN (bodyOf Try.f47) := ⟨_, rfl⟩
  rw [← hc]
  have e := fr285 hfr
  simp only [s3, s4, s5, s6, s7, s9, s10, s11] at e
  have ek : ((k + 1 : Nat) : Int) - 1 = (k : Int) := by omega
  rw [ek] at e
  rw [← hd] at hch
  rw [e]
  have Hc := keep hc
  have HM := keep hM
  have H8 := keep s8
  have H32 := keep s32
  have H33 := keep s33
  have H34 := keep s34
  by_cases hm : (bsl s).drop k ∈ addT tx0 ((bsl s).drop (k + 1))
  · rw [if_pos hm] at hsn
    simp only [if_pos hm, decide_eq_true hm] at hch
    have Hch := keep hch
    have Hsn := keep hsn
    clear e hc hM s3 s4 s5 s6 s7 s8 s9 s10 s11 s32 s33 s34 hQ hch hsn hd hu hT1 ek hids hm
    generalize addT tx0 ((bsl s).drop (k + 1)) = tx1 at *
    unfold rnd2
    conv => arg 2; arg 1; whnf
    conv => arg 2; arg 2; arg 1; arg 2; arg 1; whnf
    conv => arg 2; arg 2; arg 1; arg 2; arg 2; arg 1; whnf
    conv => arg 2; arg 2; arg 1; arg 2; arg 2; arg 2; arg 1; arg 1; whnf
    conv => arg 2; arg 2; arg 1; arg 2; arg 2; arg 2; arg 2; whnf
    conv => arg 2; arg 2; arg 2; whnf
    go_wp2_with (go_at_call 59; refine Hch.out.mono ?_; rintro e w' ⟨rfl, n, rfl⟩)
    refine HQ.out _ _ ⟨⟨rfl, rfl⟩, rfl, H8.out, rfl, ?_, rfl, H32.out, H33.out, H34.out, ⟨pb, pcap, qb, qcap, nb, ncap, ib, icap, ?_, ?_, ?_, ?_, ?_⟩, below_drewN hbel n⟩
    all_goals rw [Hsn.out]
    · rfl
    · exact HM.out.same (by simp) (fun _ _ _ => by simp)
    · rfl
    · rfl
    · rfl
    · rfl
  · rw [if_neg hm] at hsn
    simp only [if_neg hm, decide_eq_false hm] at hch
    have Hch := keep hch
    have Hsn := keep hsn
    have Hm := keep hm
    have Hd := keep hd
    have Hu := keep hu
    have HT1 := keep hT1
    have hid := hids ((bsl s).drop k) (fun h => hm ((addT_pre _).subset h))
    have Hid' := keep hid
    have hul : ((bsl s).drop (k + 1)).length < 1073741824 := by rw [List.length_drop, bsl_len]; omega
    clear e hc hM s3 s4 s5 s6 s7 s8 s9 s10 s11 s32 s33 s34 hQ hch hsn hd hu hT1 ek hids hm hid
    generalize addT tx0 ((bsl s).drop (k + 1)) = tx1 at *
    unfold rnd2
    conv => arg 2; arg 1; whnf
    conv => arg 2; arg 2; arg 1; arg 2; arg 1; whnf
    conv => arg 2; arg 2; arg 1; arg 2; arg 2; arg 1; whnf
    conv => arg 2; arg 2; arg 1; arg 2; arg 2; arg 2; arg 1; arg 1; whnf
    conv => arg 2; arg 2; arg 1; arg 2; arg 2; arg 2; arg 2; whnf
    conv => arg 2; arg 2; arg 2; whnf
    go_wp2_with (go_at_call 59; refine Hch.out.mono ?_; rintro e w' ⟨rfl, n, rfl⟩)
    rename_i K1 hK1 K2 hK2
    rw [Hc.out]
    refine newState _ (w.drewN n) _ ⟨rfl, rfl⟩ (b := s[k]) (u := (bsl s).drop (k + 1)) HT1.out (by omega) Hu.out hul (by rw [← Hd.out]; exact Hm.out) (by rw [← Hd.out]; exact Hid'.out) (HM.out.same (by simp) (fun _ _ _ => by simp)) rfl rfl rfl rfl rfl rfl rfl ?_
    intro a2 w2 pb' pcap' qb' qcap' nb' ncap' ib' icap' hF2 hM2 hb2 t4 t5 t6 t7 t13 hkp
    rw [← Hd.out, ← Hsn.out] at hM2 t4 t5 t6 t7 t13
    refine hK2 a2 w2 ?_
    have t3 : sl a2 3 = .pointer (some ⟨sb, 0, none⟩) := hkp.at 3
    have t8 : sl a2 8 = v8 := (hkp.at 8).trans H8.out
    have t9 : sl a2 9 = .string s := hkp.at 9
    have t11 : sl a2 11 = .int .i64 (k : Int) := hkp.at 11
    have t32 : sl a2 32 = v32 := (hkp.at 32).trans H32.out
    have t33 : sl a2 33 = v33 := (hkp.at 33).trans H33.out
    have t34 : sl a2 34 = v34 := (hkp.at 34).trans H34.out
    have e2 := fr285 hF2
    simp only [t3, t8, t9, t11, t13, t4, t5, t6, t7, t32, t33, t34] at e2
    have HM2 := keep hM2
    have hbb : Below B w0 w2 := (below_drewN hbel n).trans hb2
    rw [e2]
    clear e2 t3 t8 t9 t11 t13 t4 t5 t6 t7 t32 t33 t34 hM2 hkp hF2 hK2 hb2 hbel
    go_wp2_with fail
    exact HQ.out _ _ ⟨⟨rfl, rfl⟩, rfl, rfl, rfl, rfl, rfl, rfl, rfl, rfl, ⟨pb', pcap', qb', qcap', nb', ncap', ib', icap', HM2.out, rfl, rfl, rfl, rfl⟩, hbb⟩

/-- The loop over the bytes of one string. -/
theorem loop2 (hT : Trie tx0) (hlen : tx0.length + s.size < 1073741824) (hids : ∀ u, u ∉ tx0 → ids u = -1) {a : Act} {w : World} (h : I2 B sb mb ids tx0 s v8 v32 v33 v34 w0 s.size a w) (Q : Exit → Act → World → Prop)
    (hQ : ∀ a' w', I2 B sb mb ids tx0 s v8 v32 v33 v34 w0 0 a' w' → Q .normal a' w') : Code.wp Try.prog (cr (cl (cr (cr (pX (bodyOf Try.f47)))))) Q a w := by
  show Code.wp Try.prog (.block 2 (.loop (pL2 (bodyOf Try.f47)))) Q a w
  refine wp_block ?_
  refine wp_loop (fun a w => ∃ k, k ≤ s.size ∧ I2 B sb mb ids tx0 s v8 v32 v33 v34 w0 k a w) (fun a _ => (intOf (sl a 11) + 1).toNat) ⟨s.size, Nat.le_refl _, h⟩ ?_
  rintro a w ⟨k, hk, hI⟩
  cases k with
  | zero =>
    refine round2_end hI _ ?_
    intro a' hF hkp
    show Exit.inBlock 2 Q (.exit 2) a' w
    simp only [Exit.inBlock, if_true]
    obtain ⟨hfr, s3, s8, s9, s10, s11, s32, s33, s34, ⟨pb, pcap, qb, qcap, nb, ncap, ib, icap, hM, s4, s5, s6, s7⟩, hbel⟩ := hI
    exact hQ a' w ⟨hF, (hkp.at 3).trans s3, (hkp.at 8).trans s8, (hkp.at 9).trans s9, (hkp.at 10).trans s10, (hkp.at 11).trans s11, (hkp.at 32).trans s32, (hkp.at 33).trans s33, (hkp.at 34).trans s34,
      ⟨pb, pcap, qb, qcap, nb, ncap, ib, icap, hM, (hkp.at 4).trans s4, (hkp.at 5).trans s5, (hkp.at 6).trans s6, (hkp.at 7).trans s7⟩, hbel⟩
  | succ k =>
    refine round2_go hT hlen hids (by omega) hI _ ?_
    intro a' w' hI'
    refine ⟨⟨k, by omega, hI'⟩, ?_⟩
    show (intOf (sl a' 11) + 1).toNat < (intOf (sl a 11) + 1).toNat
    rw [hI.s11, hI'.s11]
    simp only [intOf]
    omega
end
end Go.Proofs.Qxb6000411a
