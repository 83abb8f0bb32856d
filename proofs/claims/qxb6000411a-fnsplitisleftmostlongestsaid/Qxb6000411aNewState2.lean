/-
  newStringSet: a new state is linked (stringset.go:45 to 49); the whole of the new state.
-/
import Derived.Test.Qxb6000411aNewState
namespace Go.Proofs.Qxb6000411a
open Go.RowKit Go.Maps Pl

set_option maxRecDepth 100000 in
set_option maxHeartbeats 1000000 in
theorem newStateB0 (a : Act) (w : World) (Q : Exit → Act → World → Prop) (hF : Fr 285 a) (sb b : Nat) (x : Value) (hb : b < 256) (hc : w.cell? ⟨sb, b, none⟩ = some x) (hf : w.frozen? ⟨sb, b, none⟩ = false) (n : Int)
    (s3 : sl a 3 = .pointer (some ⟨sb, 0, none⟩)) (s10 : sl a 10 = .int .i32 0) (s12 : sl a 12 = .int .u8 (b : Int)) (s13 : sl a 13 = .int .i32 n)
    (hK : ∀ a', Fr 285 a' → (∀ i, i ∈ [3, 4, 5, 6, 7, 8, 9, 10, 11, 12, 13, 14, 32, 33, 34] → sl a' i = sl a i) → Q .normal a' (w.setCell ⟨sb, b, none⟩ (.int .i32 n))) :
    Code.wp Try.prog (cr (cr (cr (pN (bodyOf Try.f47))))) Q a w := by
  have e := fr285 hF
  simp only [s3, s10, s12, s13] at e
  have H3 := keep s3
  have H10 := keep s10
  have H12 := keep s12
  have H13 := keep s13
  have HK := keep hK
  rw [e]
  clear e s3 s10 s12 s13 hK
  conv => arg 2; whnf
  go_wp2_with fail
  refine HK.out _ ⟨rfl, rfl⟩ ?_
  intro i hi
  simp only [List.mem_cons, List.not_mem_nil, or_false] at hi
  rcases hi with rfl | rfl | rfl | rfl | rfl | rfl | rfl | rfl | rfl | rfl | rfl | rfl | rfl | rfl | rfl
  all_goals first | rfl | exact H3.out.symm | exact H10.out.symm | exact H12.out.symm | exact H13.out.symm

set_option maxRecDepth 100000 in
set_option maxHeartbeats 1000000 in
theorem newStateB1 (a : Act) (w w' : World) (Q : Exit → Act → World → Prop) (hF : Fr 285 a) (sb mb b s : Nat) (hb : b < 256) (hs0 : 1 ≤ s) (hs1 : s < 2147483648) (hc : w.cell? ⟨sb, 256, none⟩ = some (.map (some mb))) (n : Int)
    (hrun : (Instr.mapUpdate 78 (.map (some mb)) (.int .u64 ((s : Int) * 256 + (b : Int))) (.int .i32 n)).run Try.prog w = .ok () w')
    (s3 : sl a 3 = .pointer (some ⟨sb, 0, none⟩)) (s10 : sl a 10 = .int .i32 (s : Int)) (s12 : sl a 12 = .int .u8 (b : Int)) (s13 : sl a 13 = .int .i32 n)
    (hK : ∀ a', Fr 285 a' → (∀ i, i ∈ [3, 4, 5, 6, 7, 8, 9, 10, 11, 12, 13, 14, 32, 33, 34] → sl a' i = sl a i) → Q .normal a' w') :
    Code.wp Try.prog (cr (cr (cr (pN (bodyOf Try.f47))))) Q a w := by
  have hk := bits_key (s : Int) (b : Int) (by omega) (by omega) (by omega) (by omega)
  have h0 : ((s : Int) == 0) = false := by rw [beq_eq_false_iff_ne]; omega
  have e := fr285 hF
  simp only [s3, s10, s12, s13] at e
  have H3 := keep s3
  have H10 := keep s10
  have H12 := keep s12
  have H13 := keep s13
  have HK := keep hK
  rw [e]
  clear e s3 s10 s12 s13 hK
  conv => arg 2; whnf
  go_wp2_with fail
  refine HK.out _ ⟨rfl, rfl⟩ ?_
  intro i hi
  simp only [List.mem_cons, List.not_mem_nil, or_false] at hi
  rcases hi with rfl | rfl | rfl | rfl | rfl | rfl | rfl | rfl | rfl | rfl | rfl | rfl | rfl | rfl | rfl
  all_goals first | rfl | exact H3.out.symm | exact H10.out.symm | exact H12.out.symm | exact H13.out.symm

def Keeps (S : List Nat) (a a' : Act) : Prop := ∀ i, i ∈ S → sl a' i = sl a i
theorem Keeps.at {S : List Nat} {a a' : Act} (h : Keeps S a a') (i : Nat) (hi : i ∈ S := by decide) : sl a' i = sl a i := h i hi

/-- The whole of the new state. -/
theorem newState (a : Act) (w : World) (Q : Exit → Act → World → Prop) (hF : Fr 285 a) {B sb mb : Nat} {tx : List (List UInt8)} {ids : List UInt8 → Int} {pb pcap qb qcap nb ncap ib icap : Nat} {u : List UInt8} {b : UInt8}
    (hT : Trie tx) (hlen : tx.length < 1073741824) (hu : u ∈ tx) (hul : u.length < 1073741824) (hn : (b :: u) ∉ tx) (hids : ids (b :: u) = -1) (hM : TM B w sb mb tx ids pb pcap qb qcap nb ncap ib icap)
    (s3 : sl a 3 = .pointer (some ⟨sb, 0, none⟩)) (s4 : sl a 4 = .slice (some ⟨pb, 0, none⟩) tx.length pcap) (s5 : sl a 5 = .slice (some ⟨qb, 0, none⟩) tx.length qcap) (s6 : sl a 6 = .slice (some ⟨nb, 0, none⟩) tx.length ncap) (s7 : sl a 7 = .slice (some ⟨ib, 0, none⟩) tx.length icap)
    (s10 : sl a 10 = .int .i32 (ix tx u : Int)) (s12 : sl a 12 = .int .u8 (b.toNat : Int))
    (hK : ∀ a' w' pb' pcap' qb' qcap' nb' ncap' ib' icap', Fr 285 a' → TM B w' sb mb (tx ++ [b :: u]) ids pb' pcap' qb' qcap' nb' ncap' ib' icap' → Below B w w' →
      sl a' 4 = .slice (some ⟨pb', 0, none⟩) (tx ++ [b :: u]).length pcap' → sl a' 5 = .slice (some ⟨qb', 0, none⟩) (tx ++ [b :: u]).length qcap' → sl a' 6 = .slice (some ⟨nb', 0, none⟩) (tx ++ [b :: u]).length ncap' → sl a' 7 = .slice (some ⟨ib', 0, none⟩) (tx ++ [b :: u]).length icap' →
      sl a' 13 = .int .i32 (ix (tx ++ [b :: u]) (b :: u) : Int) → Keeps [3, 8, 9, 10, 11, 12, 14, 32, 33, 34] a a' → Q .normal a' w') :
    Code.wp Try.prog (pN (bodyOf Try.f47)) Q a w := by
  have hb := b.toNat_lt
  have hux := ix_lt hu
  have hlo := hM.lo
  have hl1 : (tx.map fun u => Value.int .i32 (ix tx u.tail : Int)).length = tx.length := by simp
  refine newStateA (cr (cr (cr (pN (bodyOf Try.f47))))) a w Q hF B sb mb pb pcap qb qcap nb ncap ib icap (ix tx u) b.toNat tx.length (u.length : Int) _ _ _ _ hM.par hM.lab hM.len hM.idx hM.str hM.map
    (by rw [hl1]; exact hlen) (by simp) (by simp) (by simp) hM.pn hM.pi hM.ni ⟨hlo.2.2.1, hlo.2.2.2.1, hlo.2.2.2.2.1, hlo.2.2.2.2.2⟩ hM.size (by rw [hl1]; exact hux) (map_ix hu _) (by omega) (by omega)
    (by rw [hl1]; exact s4) (by rw [hl1]; exact s5) (by rw [hl1]; exact s6) (by rw [hl1]; exact s7) s10 s12 ?_
  intro a' w' pb' pcap' qb' qcap' nb' ncap' ib' icap' hF' hp hq hn' hi hS hMp pn pi ni lo hbel t4 t5 t6 t7 t13 hkeep
  rw [hl1] at t4 t5 t6 t7 t13
  have hkeep' : Keeps [3, 8, 9, 10, 11, 12, 14, 32, 33, 34] a a' := hkeep
  have e1 : (tx ++ [b :: u]).length = tx.length + 1 := by simp
  have hB : B ≤ w'.heap.size := by have := hp.lt; omega
  rw [← snoc_par (b := b) hT hu] at hp
  have hq2 : Row w' 5 qb' qcap' ((tx ++ [b :: u]).map fun v => .int .u8 ((v.headD 0).toNat : Int)) := by rw [snoc_map]; exact hq
  have hn2 : Row w' 21 nb' ncap' ((tx ++ [b :: u]).map fun v => .int .i32 (v.length : Int)) := by
    rw [snoc_map]
    have : (((b :: u).length : Nat) : Int) = (u.length : Int) + 1 := by simp
    rw [this]
    exact hn'
  have hi2 : Row w' 21 ib' icap' ((tx ++ [b :: u]).map fun v => .int .i32 (ids v)) := by rw [snoc_map, hids]; exact hi
  have hrest : ∀ w2, Str w2 sb (root (tx ++ [b :: u])) mb nilS nilS nilS → MapIs w2 mb (tx ++ [b :: u]).length (nx (tx ++ [b :: u])) → (∀ r, (r = sb ∨ r = mb) → w'.grownBy w2 (some r) → TM B w2 sb mb (tx ++ [b :: u]) ids pb' pcap' qb' qcap' nb' ncap' ib' icap' ∧ Below B w w2) := by
    intro w2 hS2 hM2 r hr hg
    have hrB : B ≤ r := by
      rcases hr with h | h <;> rw [h]
      · exact hlo.1
      · exact hlo.2.1
    have n1 : pb' ≠ r := by
      rcases hr with h | h <;> rw [h]
      · exact hp.ne_str hS (by decide)
      · exact hp.ne_map hMp
    have n2 : qb' ≠ r := by
      rcases hr with h | h <;> rw [h]
      · exact hq.ne_str hS (by decide)
      · exact hq.ne_map hMp
    have n3 : nb' ≠ r := by
      rcases hr with h | h <;> rw [h]
      · exact hn'.ne_str hS (by decide)
      · exact hn'.ne_map hMp
    have n4 : ib' ≠ r := by
      rcases hr with h | h <;> rw [h]
      · exact hi.ne_str hS (by decide)
      · exact hi.ne_map hMp
    refine ⟨⟨hS2, hM2, hp.kept hg (by simpa using n1), hq2.kept hg (by simpa using n2), hn2.kept hg (by simpa using n3), hi2.kept hg (by simpa using n4), pn, pi, ni, ⟨hlo.1, hlo.2.1, lo⟩, Nat.le_trans hB hg.size⟩, hbel.grown hg hB (fun k e => by cases e; exact hrB)⟩
  have t3 := (hkeep'.at 3).trans s3
  have t10 := (hkeep'.at 10).trans s10
  have t12 := (hkeep'.at 12).trans s12
  have hfin : ∀ (a2 : Act) (w2 : World), Fr 285 a2 → (∀ i, i ∈ [3, 4, 5, 6, 7, 8, 9, 10, 11, 12, 13, 14, 32, 33, 34] → sl a2 i = sl a' i) → TM B w2 sb mb (tx ++ [b :: u]) ids pb' pcap' qb' qcap' nb' ncap' ib' icap' ∧ Below B w w2 → Q .normal a2 w2 := by
    intro a2 w2 hF2 hk2 h2
    refine hK a2 w2 pb' pcap' qb' qcap' nb' ncap' ib' icap' hF2 h2.1 h2.2 ?_ ?_ ?_ ?_ ?_ ?_
    · rw [hk2 4 (by decide), t4, e1]
    · rw [hk2 5 (by decide), t5, e1]
    · rw [hk2 6 (by decide), t6, e1]
    · rw [hk2 7 (by decide), t7, e1]
    · rw [hk2 13 (by decide), t13, ix_snoc hn]
    · intro i hi
      rw [hk2 i (by simp only [List.mem_cons, List.not_mem_nil, or_false] at hi ⊢; omega)]
      exact hkeep i hi
  by_cases h0 : ix tx u = 0
  · have hu0 := (hT.ix_zero hu).1 h0
    rw [h0] at t10
    refine newStateB0 a' w' Q hF' sb b.toNat _ hb (hS.cRoot hb) (hS.free _) (tx.length : Int) t3 t10 t12 t13 ?_
    intro a2 hF2 hk2
    refine hfin a2 _ hF2 hk2 (hrest _ ?_ ?_ sb (.inl rfl) (grown_setCell w' ⟨sb, b.toNat, none⟩ _))
    · refine hS.setCell b.toNat _ ?_ (by omega) (if_neg (by omega)) (if_neg (by omega)) (if_neg (by omega))
      intro c hc
      rw [root_snoc hn c hc]
      by_cases hcb : b.toNat = c
      · rw [if_pos hcb, if_pos ⟨hu0, hcb.symm⟩]
      · rw [if_neg hcb, if_neg (fun h => hcb h.2.symm)]
    · have := hMp.kept (grown_setCell w' ⟨sb, b.toNat, none⟩ (.int .i32 (tx.length : Int))) (by simpa using (hS.ne_map hMp).symm)
      rw [nx_snoc hT hu hn]
      have e : (fun j => if u ≠ [] ∧ j = (ix tx u : Int) * 256 + (b.toNat : Int) then some (tx.length : Int) else nx tx j) = nx tx := by
        funext j
        rw [if_neg (fun h => h.1 hu0)]
      rw [e, e1]
      obtain ⟨D, h1, h2⟩ := this
      exact ⟨D, h1.mono (Nat.le_succ _), h2⟩
  · obtain ⟨w2, hrun, hM2, hg2⟩ := hMp.store (by unfold maxLen; omega) ((ix tx u : Int) * 256 + (b.toNat : Int)) (tx.length : Int) (by omega) (by omega) (by omega) (by omega)
    refine newStateB1 a' w' w2 Q hF' sb mb b.toNat (ix tx u) hb (by omega) (by omega) hS.cMap (tx.length : Int) hrun t3 t10 t12 t13 ?_
    intro a2 hF2 hk2
    have hune : u ≠ [] := fun e => h0 ((hT.ix_zero hu).2 e)
    refine hfin a2 _ hF2 hk2 (hrest _ ?_ ?_ mb (.inr rfl) hg2)
    · have hS2 := hS.kept hg2 (by simpa using hS.ne_map hMp)
      obtain ⟨c, h1, h2, h3, hr⟩ := hS2
      refine ⟨c, h1, h2, ?_, hr⟩
      intro c' hc'
      rw [root_snoc hn c' hc', if_neg (fun h => hune h.1)]
      exact h3 c' hc'
    · rw [nx_snoc hT hu hn, e1]
      have e : (fun j => if u ≠ [] ∧ j = (ix tx u : Int) * 256 + (b.toNat : Int) then some (tx.length : Int) else nx tx j) = (fun j => if j = (ix tx u : Int) * 256 + (b.toNat : Int) then some (tx.length : Int) else nx tx j) := by
        funext j
        simp [hune]
      rw [e]
      exact hM2
end Go.Proofs.Qxb6000411a
