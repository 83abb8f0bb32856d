/-
  newStringSet: one state's answers (stringset.go:74 to 82), and the whole of one state.
-/
import Derived.Test.Qxb6000411aStateV
namespace Go.Proofs.Qxb6000411a
open Go.RowKit Go.Maps Pl
set_option linter.unusedVariables false

theorem idsOf_le (strs : List (List UInt8)) (u : List UInt8) : idsOf strs u ≤ strs.length := lb_le _ _
theorem idsOf_ge (strs : List (List UInt8)) (u : List UInt8) : -1 ≤ idsOf strs u := lb_ge _ _
def pre (strs : List (List UInt8)) (u : List UInt8) : Int := lb (fun s => s.isPrefixOf u) strs
theorem pre_le (strs : List (List UInt8)) (u : List UInt8) : pre strs u ≤ strs.length := lb_le _ _
theorem pre_ge (strs : List (List UInt8)) (u : List UInt8) : -1 ≤ pre strs u := lb_ge _ _

section
variable {B : Nat} {w3 : World} {tx strs : List (List UInt8)} {sb mb k pb pcap qb qcap nb ncap ib icap fb gb eb : Nat}

def rB (c d V : Code) : Code := .seq (cl (cr (cr V))) (.seq c d)
theorem rB_is : rB (p44 (bodyOf Try.f47)) (p45 (bodyOf Try.f47)) (pV (bodyOf Try.f47)) = cr (cr (pV (bodyOf Try.f47))) := by kernel_rfl

set_option maxRecDepth 100000 in
set_option maxHeartbeats 1000000 in
theorem partB (hX : CX B w3 tx strs sb mb k pb pcap qb qcap nb ncap ib icap fb gb eb) {u : List UInt8} (hu : u ∈ tx) (hne : u ≠ []) (d : Code) (a : Act) (w : World) (Q : Exit → Act → World → Prop) (hF : Fr 285 a) (hbel : Below B w3 w) {F G E : List UInt8 → Int}
    (hfr : NRow w fb tx.length tx F) (hgr : NRow w gb tx.length tx G) (her : NRow w eb tx.length tx E) (hFu : F u = (ix tx (lpp tx u) : Int))
    (s3 : sl a 3 = .pointer (some ⟨sb, 0, none⟩)) (s22 : sl a 22 = .int .i32 (ix tx u : Int))
    (hK : ∀ a', Fr 285 a' → Keeps kV a a' → d.wp Try.prog Q a' ((w.setCell ⟨gb, ix tx u, none⟩ (.int .i32 (G (lpp tx u)))).setCell ⟨eb, ix tx u, none⟩ (.int .i32 (E (lpp tx u)))).drew) :
    Code.wp Try.prog (rB (p44 (bodyOf Try.f47)) d (pV (bodyOf Try.f47))) Q a w := by
  have hux := ix_lt hu
  have hT := hX.trie
  have hpm := lpp_mem hT.nil_mem u
  have hpx := ix_lt hpm
  have hlt := lpp_lt (tx := tx) hne
  have hS : Str w sb (root tx) mb (.slice (some ⟨fb, 0, none⟩) tx.length tx.length) (.slice (some ⟨gb, 0, none⟩) tx.length tx.length) (.slice (some ⟨eb, 0, none⟩) tx.length tx.length) := hX.str.same (hbel.block sb hX.lo.1)
  have hcF := hS.cF
  have hfu := hfr.at hu
  rw [hFu] at hfu
  have ne4 : ix tx (lpp tx u) ≠ ix tx u := by
    intro e
    have := ix_inj hpm hu e
    have h1 := congrArg List.length this
    omega
  have Hcells := keep (And.intro hS.cL (And.intro hS.cE (And.intro (hgr.at hpm) (And.intro (her.at hpm) (And.intro (hgr.at hu) (And.intro (Row.free hgr (ix tx u)) (And.intro (her.at hu) (Row.free her (ix tx u)))))))))
  have hfew := hX.few
  have HX := keep hX
  have HK := keep hK
  obtain ⟨c, hc⟩ : ∃ c, c = p44 (bodyOf Try.f47) := ⟨_, rfl⟩
  rw [← hc]
  have Hc := keep hc
  have e := fr285 hF
  simp only [s3, s22] at e
  rw [e]
  have H3 := keep s3
  have H22 := keep s22
  clear e hc hK hX s3 s22 hS hFu hfr hgr her
  unfold rB
  conv => arg 2; arg 1; whnf
  go_wp2_with fail
  rename_i K1 hK1
  rw [Hc.out]
  obtain ⟨q1, q2, q3, q4, q5, q6, q7, q8⟩ := Hcells.out
  have hlo := HX.out.lo
  have hhi := HX.out.hi
  refine seg44 _ w _ ⟨rfl, rfl⟩ sb gb eb tx.length (ix tx u) (ix tx (lpp tx u)) _ _ _ _ q1 q2 q3 q4 q5 q6 q7 q8 hpx hux hfew (by omega) (by omega) HX.out.ge ne4 rfl rfl rfl ?_
  intro a' hF' hk'
  refine hK1 a' _ ?_
  refine HK.out a' hF' ?_
  intro i hi
  rw [hk' i hi]
  simp only [kV, List.mem_cons, List.not_mem_nil, or_false] at hi
  rcases hi with rfl | rfl | rfl | rfl | rfl | rfl | rfl | rfl | rfl | rfl | rfl | rfl | rfl
  all_goals first | rfl | exact H3.out.symm | exact H22.out.symm

def rC (c d e V : Code) : Code := .seq (cl (cr (cr (cr (cr V))))) (.cond (.tmp 239) (.seq c (.seq d (.cond (.tmp 271) e .skip))) .skip)
theorem rC_is : rC (p46 (bodyOf Try.f47)) (p47 (bodyOf Try.f47)) (p48 (bodyOf Try.f47)) (pV (bodyOf Try.f47)) = p45 (bodyOf Try.f47) := by kernel_rfl

set_option maxRecDepth 100000 in
set_option maxHeartbeats 1000000 in
theorem partC (hX : CX B w3 tx strs sb mb k pb pcap qb qcap nb ncap ib icap fb gb eb) {u : List UInt8} (hu : u ∈ tx) (a : Act) (w : World) (Q : Exit → Act → World → Prop) (hF : Fr 285 a) (hbel : Below B w3 w) {F G E : List UInt8 → Int}
    (hfr : NRow w fb tx.length tx F) (hgr : NRow w gb tx.length tx G) (her : NRow w eb tx.length tx E)
    (s3 : sl a 3 = .pointer (some ⟨sb, 0, none⟩)) (s6 : sl a 6 = .slice (some ⟨nb, 0, none⟩) tx.length ncap) (s7 : sl a 7 = .slice (some ⟨ib, 0, none⟩) tx.length icap) (s22 : sl a 22 = .int .i32 (ix tx u : Int))
    (hK : ∀ a' w' G' E', Fr 285 a' → Keeps kV a a' → Below B w3 w' → NRow w' fb tx.length tx F → NRow w' gb tx.length tx G' → NRow w' eb tx.length tx E' →
      (∀ v, v ∈ tx → G' v = if v = u ∧ 0 ≤ idsOf strs u then (u.length : Int) else G v) → (∀ v, v ∈ tx → E' v = if v = u then lmin (E u) (idsOf strs u) else E v) → Q .normal a' w') :
    Code.wp Try.prog (p45 (bodyOf Try.f47)) Q a w := by
  have hux := ix_lt hu
  have hT := hX.trie
  have hlo := hX.lo
  have hhi := hX.hi
  have hci : w.cell? ⟨ib, ix tx u, none⟩ = some (.int .i32 (idsOf strs u)) := by
    rw [hbel.cell (p := ⟨ib, ix tx u, none⟩) hlo.2.2.2.2.2]
    exact hX.idx.at hu
  have hcn : w.cell? ⟨nb, ix tx u, none⟩ = some (.int .i32 (u.length : Int)) := by
    rw [hbel.cell (p := ⟨nb, ix tx u, none⟩) hlo.2.2.2.2.1]
    exact hX.len.at hu
  have hS : Str w sb (root tx) mb (.slice (some ⟨fb, 0, none⟩) tx.length tx.length) (.slice (some ⟨gb, 0, none⟩) tx.length tx.length) (.slice (some ⟨eb, 0, none⟩) tx.length tx.length) := hX.str.same (hbel.block sb hX.lo.1)
  have Hcells := keep (And.intro hS.cL (And.intro (hgr.at hu) (And.intro (Row.free hgr (ix tx u)) hcn)))
  have hfew := hX.few
  have HX := keep hX
  have HK := keep hK
  obtain ⟨c, hc⟩ : ∃ c, c = p46 (bodyOf Try.f47) := ⟨_, rfl⟩
  obtain ⟨d, hd⟩ : ∃ d, d = p47 (bodyOf Try.f47) := ⟨_, rfl⟩
  obtain ⟨g, hg⟩ : ∃ d, d = p48 (bodyOf Try.f47) := ⟨_, rfl⟩
  rw [← rC_is, ← hc, ← hd, ← hg]
  have Hc := keep hc
  have Hd := keep hd
  have Hg := keep hg
  have e := fr285 hF
  simp only [s3, s6, s7, s22] at e
  rw [e]
  have H3 := keep s3
  have H6 := keep s6
  have H7 := keep s7
  have H22 := keep s22
  have Hrows := keep (And.intro hfr (And.intro hgr her))
  have i4 := idsOf_ge strs u
  have hS' := keep hS
  clear e hc hd hg hK hX s3 s6 s7 s22 hfr hgr her hcn hS
  unfold rC
  conv => arg 2; arg 1; whnf
  by_cases hneg : idsOf strs u < 0
  · go_wp2_with fail
    obtain ⟨hfr, hgr, her⟩ := Hrows.out
    refine HK.out _ w G E ⟨rfl, rfl⟩ ?_ hbel hfr hgr her ?_ ?_
    · intro i hi
      simp only [kV, List.mem_cons, List.not_mem_nil, or_false] at hi
      rcases hi with rfl | rfl | rfl | rfl | rfl | rfl | rfl | rfl | rfl | rfl | rfl | rfl | rfl
      all_goals first | rfl | exact H3.out.symm | exact H6.out.symm | exact H7.out.symm | exact H22.out.symm
    · intro v hv
      rw [if_neg (fun h => by have := h.2; omega)]
    · intro v hv
      by_cases hvu : v = u
      · subst hvu
        rw [if_pos rfl, lmin, if_neg (by omega)]
      · rw [if_neg hvu]
  · go_wp2_with fail
    rename_i K1 hK1
    rw [Hc.out]
    obtain ⟨hfr, hgr, her⟩ := Hrows.out
    obtain ⟨q1, q2, q3, q4⟩ := Hcells.out
    refine seg46 _ w _ ⟨rfl, rfl⟩ sb gb nb tx.length ncap (ix tx u) _ _ q1 q4 q2 q3 hux hfew (by omega) (by omega) rfl rfl rfl ?_
    intro a1 hF1 hk1
    refine hK1 a1 _ ?_
    clear hK1
    have hk1' : Keeps kV a a1 := by
      intro i hi
      rw [hk1 i hi]
      simp only [kV, List.mem_cons, List.not_mem_nil, or_false] at hi
      rcases hi with rfl | rfl | rfl | rfl | rfl | rfl | rfl | rfl | rfl | rfl | rfl | rfl | rfl
      all_goals first | rfl | exact H3.out.symm | exact H6.out.symm | exact H7.out.symm | exact H22.out.symm
    have hg1 : NRow (w.setCell ⟨gb, ix tx u, none⟩ (.int .i32 (u.length : Int))).drew gb tx.length tx (fun v => if v = u then (u.length : Int) else G v) := Row.drew (NRow.put hgr hT hu _ (fun v hv => rfl))
    have he1 : NRow (w.setCell ⟨gb, ix tx u, none⟩ (.int .i32 (u.length : Int))).drew eb tx.length tx E := Row.drew (NRow.other her HX.out.ge.symm _)
    have hf1 : NRow (w.setCell ⟨gb, ix tx u, none⟩ (.int .i32 (u.length : Int))).drew fb tx.length tx F := Row.drew (NRow.other hfr HX.out.fg _)
    have hb1 : Below B w3 (w.setCell ⟨gb, ix tx u, none⟩ (.int .i32 (u.length : Int))).drew := (hbel.setCell (p := ⟨gb, ix tx u, none⟩) hhi.2.1 _).drew
    generalize (w.setCell ⟨gb, ix tx u, none⟩ (.int .i32 (u.length : Int))).drew = w1 at *
    have hci1 : w1.cell? ⟨ib, ix tx u, none⟩ = some (.int .i32 (idsOf strs u)) := by
      rw [hb1.cell (p := ⟨ib, ix tx u, none⟩) hlo.2.2.2.2.2]
      exact HX.out.idx.at hu
    have hS1 : Str w1 sb (root tx) mb (.slice (some ⟨fb, 0, none⟩) tx.length tx.length) (.slice (some ⟨gb, 0, none⟩) tx.length tx.length) (.slice (some ⟨eb, 0, none⟩) tx.length tx.length) := HX.out.str.same (hb1.block sb HX.out.lo.1)
    refine wp_seq ?_
    rw [Hd.out]
    refine seg47 a1 w1 _ hF1 sb eb ib tx.length icap (ix tx u) _ _ hS1.cE hci1 (he1.at hu) hux hfew ((hk1'.at 3).trans H3.out) ((hk1'.at 7).trans H7.out) ((hk1'.at 22).trans H22.out) ?_
    intro a2 kd hF2 hk2 t271
    have hk2' : Keeps kV a a2 := hk1'.trans hk2
    have hG : ∀ v, v ∈ tx → (if v = u then (u.length : Int) else G v) = if v = u ∧ 0 ≤ idsOf strs u then (u.length : Int) else G v := by
      intro v hv
      simp only [hneg, and_true]
    show Code.wp Try.prog (.cond (.tmp 271) g .skip) Q a2 (w1.drewN kd)
    by_cases hcond : E u < 0 ∨ idsOf strs u < E u
    · refine wp_cond_true (by show sl a2 271 = _; rw [t271, decide_eq_true hcond]) ?_
      rw [Hg.out]
      refine seg48 a2 (w1.drewN kd) _ hF2 sb eb ib tx.length icap (ix tx u) _ _ (hS1.same rfl).cE (by simpa using hci1) (by simpa using he1.at hu) (by simpa using Row.free he1 (ix tx u)) hux hfew (by omega) (by omega) ((hk2'.at 3).trans H3.out) ((hk2'.at 7).trans H7.out) ((hk2'.at 22).trans H22.out) ?_
      intro a3 hF3 hk3
      refine HK.out a3 _ _ (fun v => if v = u then idsOf strs u else E v) hF3 (hk2'.trans hk3) ((below_drewN hb1 kd).setCell (p := ⟨eb, ix tx u, none⟩) hhi.2.2 _).drew (Row.drew (NRow.other (Row.same hf1 rfl) HX.out.fe _)) (Row.drew (NRow.other (Row.same hg1 rfl) HX.out.ge _)) (Row.drew (NRow.put (Row.same he1 rfl) hT hu _ (fun v hv => rfl))) hG ?_
      intro v hv
      by_cases hvu : v = u
      · rw [if_pos hvu, if_pos hvu, lmin, if_pos ⟨hneg, hcond⟩]
      · rw [if_neg hvu, if_neg hvu]
    · refine wp_cond_false (by show sl a2 271 = _; rw [t271, decide_eq_false hcond]) ?_
      refine wp_skip ?_
      refine HK.out a2 _ _ E hF2 hk2' (below_drewN hb1 kd) (Row.same hf1 rfl) (Row.same hg1 rfl) (Row.same he1 rfl) hG ?_
      intro v hv
      by_cases hvu : v = u
      · subst hvu
        rw [if_pos rfl, lmin, if_neg (fun h => hcond h.2)]
      · rw [if_neg hvu]
end
end Go.Proofs.Qxb6000411a
