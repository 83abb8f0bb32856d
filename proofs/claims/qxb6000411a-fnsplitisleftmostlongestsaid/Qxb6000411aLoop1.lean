/-
  newStringSet: the loop over the strings (stringset.go:36 to 56).
-/
import Derived.Test.Qxb6000411aLoop2
namespace Go.Proofs.Qxb6000411a
open Go.RowKit Go.Maps Pl

/-- A slice's address leads to these strings. -/
def StrsAt (w : World) (ao : Option Addr) (strs : List ByteArray) : Prop :=
  strs = [] ∨ ∃ zb, ao = some ⟨zb, 0, none⟩ ∧ zb < w.heap.size ∧ ∀ i (h : i < strs.length), w.cell? ⟨zb, i, none⟩ = some (.string strs[i])
theorem StrsAt.below {w w' : World} {ao : Option Addr} {strs : List ByteArray} {B : Nat} (h : StrsAt w ao strs) (hb : Below B w w') (hB : w.heap.size ≤ B) : StrsAt w' ao strs := by
  rcases h with h | ⟨zb, h1, h2, h3⟩
  · exact .inl h
  · refine .inr ⟨zb, h1, Nat.lt_of_lt_of_le h2 hb.size, fun i hi => ?_⟩
    rw [hb.cell (p := ⟨zb, i, none⟩) (by simp; omega)]
    exact h3 i hi

def idsOf (l : List (List UInt8)) (u : List UInt8) : Int := lb (fun s => s == u) l
theorem idsOf_snoc (l : List (List UInt8)) (s u : List UInt8) : idsOf (l ++ [s]) u = if u = s ∧ idsOf l s < 0 then (l.length : Int) else idsOf l u := by
  unfold idsOf
  have h1 := lb_ge (fun s => s == u) l
  rw [lb_append, lb_cons, lb_nil]
  by_cases he : u = s
  · subst he
    simp only [beq_self_eq_true, true_and, if_true]
    by_cases h0 : 0 ≤ lb (fun s => s == u) l
    · rw [if_pos h0, if_neg (by omega)]
    · rw [if_neg h0, if_pos (by omega), if_pos (by omega)]
      omega
  · have hne : (s == u) = false := by rw [beq_eq_false_iff_ne]; exact fun e => he e.symm
    simp only [hne, he, false_and, if_false]
    split
    · rfl
    · simp
      omega
theorem idsOf_none {l : List (List UInt8)} {u : List UInt8} (h : u ∉ l) : idsOf l u = -1 := by
  refine lb_none fun s hs => ?_
  rw [beq_eq_false_iff_ne]
  exact fun e => h (e ▸ hs)

theorem TM.setIdx {B : Nat} {w : World} {sb mb : Nat} {tx : List (List UInt8)} {ids ids' : List UInt8 → Int} {pb pcap qb qcap nb ncap ib icap : Nat} (h : TM B w sb mb tx ids pb pcap qb qcap nb ncap ib icap) {u : List UInt8} (hu : u ∈ tx) (hT : Trie tx) (n : Int)
    (hi : ∀ v, ids' v = if v = u then n else ids v) : TM B (w.setCell ⟨ib, ix tx u, none⟩ (.int .i32 n)) sb mb tx ids' pb pcap qb qcap nb ncap ib icap := by
  have hg := grown_setCell w ⟨ib, ix tx u, none⟩ (.int .i32 n)
  have hm : (tx.map fun v => Value.int .i32 (ids' v)) = (tx.map fun v => Value.int .i32 (ids v)).set (ix tx u) (.int .i32 n) := by
    apply List.ext_getElem?
    intro j
    rw [List.getElem?_set, List.getElem?_map, List.getElem?_map]
    by_cases hj : ix tx u = j
    · subst hj
      rw [if_pos rfl, get_ix hu, if_pos (by simpa using ix_lt hu)]
      simp [hi]
    · rw [if_neg hj]
      cases hg : tx[j]? with
      | none => rfl
      | some v =>
        have : v ≠ u := fun e => hj (hT.ix_get (e ▸ hg))
        simp [hi, this]
  refine ⟨h.str.kept hg (by simpa using (h.idx.ne_str h.str (by decide)).symm), h.map.kept hg (by simpa using (h.idx.ne_map h.map).symm), h.par.kept hg (by simpa using h.pi), h.lab.kept hg (by simpa using (h.idx.ne_type h.lab (by decide)).symm), h.len.kept hg (by simpa using h.ni), ?_, h.pn, h.pi, h.ni, h.lo, by simpa using h.size⟩
  rw [hm]
  exact h.idx.set _ _
theorem TM.congr {B : Nat} {w : World} {sb mb : Nat} {tx : List (List UInt8)} {ids ids' : List UInt8 → Int} {pb pcap qb qcap nb ncap ib icap : Nat} (h : TM B w sb mb tx ids pb pcap qb qcap nb ncap ib icap) (hi : ∀ v, ids' v = ids v) : TM B w sb mb tx ids' pb pcap qb qcap nb ncap ib icap := by
  rw [show ids' = ids from funext hi]
  exact h

/-- At the head of the loop over the strings, i of them done. -/
structure I1 (B sb mb : Nat) (strs : List ByteArray) (ao : Option Addr) (cap : Nat) (w0 : World) (i : Nat) (a : Act) (w : World) : Prop where
  fr : Fr 285 a
  s3 : sl a 3 = .pointer (some ⟨sb, 0, none⟩)
  s32 : sl a 32 = .slice ao strs.length cap
  s33 : sl a 33 = .int .i64 (strs.length : Int)
  s34 : sl a 34 = .int .i64 (i : Int)
  mem : ∃ pb pcap qb qcap nb ncap ib icap, TM B w sb mb (tr ((strs.map bsl).take i)) (idsOf ((strs.map bsl).take i)) pb pcap qb qcap nb ncap ib icap ∧
    sl a 4 = .slice (some ⟨pb, 0, none⟩) (tr ((strs.map bsl).take i)).length pcap ∧ sl a 5 = .slice (some ⟨qb, 0, none⟩) (tr ((strs.map bsl).take i)).length qcap ∧
    sl a 6 = .slice (some ⟨nb, 0, none⟩) (tr ((strs.map bsl).take i)).length ncap ∧ sl a 7 = .slice (some ⟨ib, 0, none⟩) (tr ((strs.map bsl).take i)).length icap
  below : Below B w0 w

/-- The round's code, the loop over the bytes left open. -/
def rnd1 (c : Code) (L1 : Code) : Code :=
  .seq (cl L1) (.seq (cl (cr L1)) (.seq (.block 1 (.seq (cl (ci (cl (cr (cr L1))))) (.seq (cl (cr (ci (cl (cr (cr L1)))))) (.seq (.seq (cl (cl (cr (cr (ci (cl (cr (cr L1)))))))) c) (cr (cr (cr (ci (cl (cr (cr L1))))))))))) (cr (cr (cr L1)))))
theorem rnd1_is : rnd1 (cr (cl (cr (cr (pX (bodyOf Try.f47)))))) (pL1 (bodyOf Try.f47)) = pL1 (bodyOf Try.f47) := by kernel_rfl

section
variable {B sb mb : Nat} {strs : List ByteArray} {ao : Option Addr} {cap : Nat} {w0 : World}

set_option maxRecDepth 100000 in
set_option maxHeartbeats 1000000 in
theorem round1_end {a : Act} {w : World} (h : I1 B sb mb strs ao cap w0 strs.length a w) (Q : Exit → Act → World → Prop)
    (hQ : ∀ a', I1 B sb mb strs ao cap w0 strs.length a' w → Q (.exit 0) a' w) : Code.wp Try.prog (pL1 (bodyOf Try.f47)) Q a w := by
  obtain ⟨hfr, s3, s32, s33, s34, ⟨pb, pcap, qb, qcap, nb, ncap, ib, icap, hM, s4, s5, s6, s7⟩, hbel⟩ := h
  have e := fr285 hfr
  simp only [s33, s34] at e
  have HQ := keep hQ
  have HM := keep hM
  have H3 := keep s3
  have H4 := keep s4
  have H5 := keep s5
  have H6 := keep s6
  have H7 := keep s7
  have H32 := keep s32
  rw [e]
  clear e s3 s4 s5 s6 s7 s32 s33 s34 hQ hM
  conv => arg 2; whnf
  go_wp2_with fail
  exact HQ.out _ ⟨⟨rfl, rfl⟩, H3.out, H32.out, rfl, rfl, ⟨pb, pcap, qb, qcap, nb, ncap, ib, icap, HM.out, H4.out, H5.out, H6.out, H7.out⟩, hbel⟩

set_option maxRecDepth 100000 in
set_option maxHeartbeats 4000000 in
theorem round1_go (hA : StrsAt w0 ao strs) (hB : w0.heap.size ≤ B) (hlen : 1 + sumLen (strs.map bsl) < 1073741824) (hfew : strs.length < 1073741824) {i : Nat} (hi : i < strs.length) {a : Act} {w : World} (h : I1 B sb mb strs ao cap w0 i a w) (Q : Exit → Act → World → Prop)
    (hQ : ∀ a' w', I1 B sb mb strs ao cap w0 (i + 1) a' w' → Q .normal a' w') : Code.wp Try.prog (pL1 (bodyOf Try.f47)) Q a w := by
  obtain ⟨hfr, s3, s32, s33, s34, ⟨pb, pcap, qb, qcap, nb, ncap, ib, icap, hM, s4, s5, s6, s7⟩, hbel⟩ := h
  have hA2 := hA.below hbel hB
  obtain ⟨zb, rfl, hzb, hcell⟩ : ∃ zb, ao = some ⟨zb, 0, none⟩ ∧ zb < w.heap.size ∧ ∀ i (h : i < strs.length), w.cell? ⟨zb, i, none⟩ = some (.string strs[i]) := by
    rcases hA2 with h | h
    · subst h; simp at hi
    · exact h
  have hci := hcell i hi
  generalize hs : strs[i] = s at hci
  have hti : (strs.map bsl).take (i + 1) = (strs.map bsl).take i ++ [bsl s] := by
    rw [List.take_succ_eq_append_getElem (by simpa using hi)]
    simp [hs]
  have hsz : sumLen ((strs.map bsl).take i) + s.size ≤ sumLen (strs.map bsl) := by
    have h1 := sumLen_take (strs.map bsl) (i + 1)
    rw [hti, sumLen_snoc, bsl_len] at h1
    exact h1
  have htl := tr_len ((strs.map bsl).take i)
  have HQ := keep hQ
  rw [← rnd1_is]
  obtain ⟨c, hc⟩ : ∃ c, c = cr (cl (cr (cr (pX (bodyOf Try.f47))))) := ⟨_, rfl⟩
  rw [← hc]
  have e := fr285 hfr
  simp only [s3, s4, s5, s6, s7, s32, s33, s34] at e
  rw [e]
  have Hc := keep hc
  have HM := keep hM
  have Hti := keep hti
  clear e hc hM s3 s4 s5 s6 s7 s32 s33 s34 hQ hcell hA hA2 hti hs
  unfold rnd1
  conv => arg 2; arg 1; whnf
  conv => arg 2; arg 2; arg 1; whnf
  conv => arg 2; arg 2; arg 2; arg 1; arg 2; arg 1; whnf
  conv => arg 2; arg 2; arg 2; arg 1; arg 2; arg 2; arg 1; whnf
  conv => arg 2; arg 2; arg 2; arg 1; arg 2; arg 2; arg 2; arg 1; arg 1; whnf
  conv => arg 2; arg 2; arg 2; arg 1; arg 2; arg 2; arg 2; arg 2; whnf
  conv => arg 2; arg 2; arg 2; arg 2; whnf
  go_wp2_with fail
  rename_i K1 hK1 K2 hK2
  rw [Hc.out]
  have hT := tr_trie ((strs.map bsl).take i)
  have hdz : (bsl s).drop s.size = [] := List.drop_of_length_le (by rw [bsl_len]; exact Nat.le_refl _)
  refine loop2 (B := B) (sb := sb) (mb := mb) (ids := idsOf ((strs.map bsl).take i)) (tx0 := tr ((strs.map bsl).take i)) (s := s) (v8 := .int .i64 (i : Int)) (v32 := .slice (some ⟨zb, 0, none⟩) strs.length cap)
    (v33 := .int .i64 (strs.length : Int)) (v34 := .int .i64 (i : Int)) (w0 := w) hT (by omega) (fun u hu => idsOf_none (fun h => hu (tr_mem _ u h))) ⟨⟨rfl, rfl⟩, rfl, rfl, rfl, ?_, rfl, rfl, rfl, rfl, ⟨pb, pcap, qb, qcap, nb, ncap, ib, icap, ?_⟩, Below.refl _ _⟩ _ ?_
  · rw [hdz]; simp only [addT]; rw [hT.ix_nil]; rfl
  · rw [hdz]; simp only [addT]; exact ⟨HM.out, rfl, rfl, rfl, rfl⟩
  intro a2 w2 hI2
  refine hK2 a2 w2 ?_
  obtain ⟨hfr2, t3, t8, t9, t10, t11, t32, t33, t34, ⟨pb', pcap', qb', qcap', nb', ncap', ib', icap', hM2, t4, t5, t6, t7⟩, hbel2⟩ := hI2
  simp only [List.drop_zero] at *
  have hbb : Below B w0 w2 := hbel.trans hbel2
  have hTr : tr ((strs.map bsl).take (i + 1)) = addT (tr ((strs.map bsl).take i)) (bsl s) := by rw [Hti.out, tr_snoc]
  rw [← hTr] at t10 t4 t5 t6 t7 hM2
  have hmem : bsl s ∈ tr ((strs.map bsl).take (i + 1)) := tr_mem _ _ (by rw [Hti.out]; simp)
  have hix := ix_lt hmem
  have hcI := hM2.idx.cellD (map_ix hmem _)
  have hfI := hM2.idx.free (ix (tr ((strs.map bsl).take (i + 1))) (bsl s))
  have e2 := fr285 hfr2
  simp only [t3, t8, t10, t4, t5, t6, t7, t32, t33, t34] at e2
  have HM2 := keep hM2
  rw [e2]
  have hil : ((strs.map bsl).take i).length = i := by simp; omega
  have hids := fun u => idsOf_snoc ((strs.map bsl).take i) (bsl s) u
  rw [← Hti.out, hil] at hids
  have Hids := keep hids
  clear e2 t3 t8 t9 t10 t11 t4 t5 t6 t7 t32 t33 t34 hM2 hfr2 hK2 hbel2 hbel HM hT hdz hTr hci hzb hids hil Hti htl hsz
  have hTT := tr_trie ((strs.map bsl).take (i + 1))
  generalize htx : tr ((strs.map bsl).take (i + 1)) = tx1 at *
  have Htx := keep htx
  have HTT := keep hTT
  clear htx hTT
  by_cases hneg : idsOf ((strs.map bsl).take i) (bsl s) < 0
  · go_wp2_with fail
    refine HQ.out _ _ ⟨⟨rfl, rfl⟩, rfl, rfl, rfl, by go_num, ⟨pb', pcap', qb', qcap', nb', ncap', ib', icap', ?_⟩, hbb.setCell (HM2.out.lo.2.2.2.2.2) _⟩
    rw [Htx.out]
    refine ⟨HM2.out.setIdx hmem HTT.out _ ?_, rfl, rfl, rfl, rfl⟩
    intro v
    rw [Hids.out]
    simp only [hneg, and_true]
  · go_wp2_with fail
    refine HQ.out _ _ ⟨⟨rfl, rfl⟩, rfl, rfl, rfl, by go_num, ⟨pb', pcap', qb', qcap', nb', ncap', ib', icap', ?_⟩, hbb⟩
    rw [Htx.out]
    refine ⟨HM2.out.congr ?_, rfl, rfl, rfl, rfl⟩
    intro v
    rw [Hids.out, if_neg (fun h => by have := h.2; omega)]

theorem loop1 (hA : StrsAt w0 ao strs) (hB : w0.heap.size ≤ B) (hlen : 1 + sumLen (strs.map bsl) < 1073741824) (hfew : strs.length < 1073741824) {a : Act} {w : World} (h : I1 B sb mb strs ao cap w0 0 a w) (Q : Exit → Act → World → Prop)
    (hQ : ∀ a' w', I1 B sb mb strs ao cap w0 strs.length a' w' → Q .normal a' w') : Code.wp Try.prog (cr (cl (cr (cr (cr (bodyOf Try.f47)))))) Q a w := by
  show Code.wp Try.prog (.block 0 (.loop (pL1 (bodyOf Try.f47)))) Q a w
  refine wp_block ?_
  refine wp_loop (fun a w => ∃ i, i ≤ strs.length ∧ I1 B sb mb strs ao cap w0 i a w) (fun a _ => strs.length - (intOf (sl a 34)).toNat) ⟨0, Nat.zero_le _, h⟩ ?_
  rintro a w ⟨i, hi, hI⟩
  by_cases hlt : i < strs.length
  · refine round1_go hA hB hlen hfew hlt hI _ ?_
    intro a' w' hI'
    refine ⟨⟨i + 1, hlt, hI'⟩, ?_⟩
    show strs.length - (intOf (sl a' 34)).toNat < strs.length - (intOf (sl a 34)).toNat
    rw [hI.s34, hI'.s34]
    simp only [intOf]
    omega
  · obtain rfl : i = strs.length := by omega
    refine round1_end hI _ ?_
    intro a' hI'
    show Exit.inBlock 0 Q (.exit 0) a' w
    simp only [Exit.inBlock, if_true]
    exact hQ a' w hI'
end
end Go.Proofs.Qxb6000411a
