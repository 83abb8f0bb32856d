/-
  newStringSet by its contract.
-/
import Derived.Test.Qxb6000411aLoop6
namespace Go.Proofs.Qxb6000411a
open Go.RowKit Go.Maps Pl
set_option linter.unusedVariables false

theorem run_make87 (w : World) : (Instr.makeSlice 87 (.int .i64 0) (.int .i64 1)).run Try.prog w = .ok (.slice (some ⟨w.heap.size, 0, none⟩) 0 1) (w.alloc (.cells #[nilS] 46)) := by kernel_rfl

set_option maxRecDepth 100000 in
set_option maxHeartbeats 1000000 in
theorem segD (c d : Code) (a : Act) (w : World) (Q : Exit → Act → World → Prop) (hF : Fr 285 a) (n nb ncap : Nat) (s6 : sl a 6 = .slice (some ⟨nb, 0, none⟩) n ncap)
    (hK : ∀ a', Fr 285 a' → Keeps [3, 4, 5, 6, 7] a a' → sl a' 15 = .slice (some ⟨w.heap.size, 0, none⟩) 0 1 → sl a' 112 = .slice (some ⟨nb, 0, none⟩) n ncap → sl a' 113 = .int .i64 (n : Int) → sl a' 114 = .int .i64 0 → c.wp Try.prog (Exit.then (d.wp Try.prog Q) Q) a' (w.alloc (.cells #[nilS] 46))) :
    Code.wp Try.prog (.seq (cl (pD (bodyOf Try.f47))) (.seq (.seq (cl (cl (cr (pD (bodyOf Try.f47))))) c) d)) Q a w := by
  have hmk := run_make87
  have HK := keep hK
  have H6 := keep s6
  have e := fr285 hF
  simp only [s6] at e
  rw [e]
  clear e s6 hK
  conv => arg 2; arg 1; whnf
  conv => arg 2; arg 2; arg 1; arg 1; whnf
  go_wp2_with fail
  rename_i K1 hK1
  refine wp_mono (HK.out _ ⟨rfl, rfl⟩ ?_ rfl rfl rfl rfl) ?_
  · intro i hi
    simp only [List.mem_cons, List.not_mem_nil, or_false] at hi
    rcases hi with rfl | rfl | rfl | rfl | rfl
    all_goals first | rfl | exact H6.out.symm
  · intro e a w h
    cases e <;> first | exact h | exact hK1 _ _ h
theorem pD_is : Code.seq (cl (pD (bodyOf Try.f47))) (.seq (.seq (cl (cl (cr (pD (bodyOf Try.f47))))) (cr (cl (cr (pD (bodyOf Try.f47)))))) (pE (bodyOf Try.f47))) = cr (cr (cr (cr (bodyOf Try.f47)))) := by kernel_rfl

set_option maxRecDepth 100000 in
set_option maxHeartbeats 1000000 in
theorem segE (a : Act) (w : World) (Q : Exit → Act → World → Prop) (hF : Fr 285 a) (n pb pcap : Nat) (s4 : sl a 4 = .slice (some ⟨pb, 0, none⟩) n pcap)
    (hK : ∀ a', Fr 285 a' → Keeps [3, 4, 5, 6, 7, 15] a a' → sl a' 18 = .int .i64 (n : Int) → Q .normal a' w) : Code.wp Try.prog (cl (pE (bodyOf Try.f47))) Q a w := by
  have HK := keep hK
  have H4 := keep s4
  have e := fr285 hF
  simp only [s4] at e
  rw [e]
  clear e s4 hK
  conv => arg 2; whnf
  go_wp2_with fail
  refine HK.out _ ⟨rfl, rfl⟩ ?_ rfl
  intro i hi
  simp only [List.mem_cons, List.not_mem_nil, or_false] at hi
  rcases hi with rfl | rfl | rfl | rfl | rfl | rfl
  all_goals first | rfl | exact H4.out.symm

set_option maxRecDepth 100000 in
set_option maxHeartbeats 1000000 in
theorem seg34 (a : Act) (w : World) (Q : Exit → Act → World → Prop) (hF : Fr 285 a) (M ob ocap : Nat) (hM : 1 ≤ M) (hM2 : M < 1073741824) (hoc : M ≤ ocap) (hoc2 : ocap ≤ maxLen) (s15 : sl a 15 = .slice (some ⟨ob, 0, none⟩) M ocap)
    (hK : ∀ a', Fr 285 a' → Keeps [3, 4, 5, 6, 7] a a' → (2 ≤ M → sl a' 165 = .slice (some ⟨ob, 1, none⟩) (M - 1) (ocap - 1)) → sl a' 166 = .int .i64 ((M - 1 : Nat) : Int) → sl a' 167 = .int .i64 0 → Q .normal a' w) : Code.wp Try.prog (cl (cl (cr (cr (cr (pE (bodyOf Try.f47))))))) Q a w := by
  unfold maxLen at hoc2
  have HK := keep hK
  have e := fr285 hF
  simp only [s15] at e
  rw [e]
  clear e s15 hK
  conv => arg 2; whnf
  go_wp2_with fail
  all_goals
    refine HK.out _ ⟨rfl, rfl⟩ ?_ ?_ ?_ rfl
    · intro i hi
      simp only [List.mem_cons, List.not_mem_nil, or_false] at hi
      rcases hi with rfl | rfl | rfl | rfl | rfl
      all_goals rfl
    · intro h2
      first | rfl | omega
    · first | rfl | (show _ = _; go_num)

theorem TM.below {B B' : Nat} {w w' : World} {sb mb : Nat} {tx : List (List UInt8)} {ids : List UInt8 → Int} {pb pcap qb qcap nb ncap ib icap : Nat} (h : TM B w sb mb tx ids pb pcap qb qcap nb ncap ib icap) (hb : Below B' w w') (hB : w.heap.size ≤ B') : TM B w' sb mb tx ids pb pcap qb qcap nb ncap ib icap :=
  h.same hb.size fun k hk _ => hb.block k (Nat.lt_of_lt_of_le hk hB)

theorem pre_nil (strs : List (List UInt8)) : pre strs [] = idsOf strs [] := by
  unfold pre idsOf
  refine lb_congr fun s _ => ?_
  cases s <;> simp
theorem lg_nil (strs : List (List UInt8)) : lg strs [] = 0 := by
  have := lg_le strs []
  simpa using this

/-- The last part's memory: what stands when the three slices are made and the root's answer is laid. -/
theorem cx_of {B0 : Nat} {w4 w5 : World} {sb mb : Nat} {tx strs : List (List UInt8)} {pb pcap qb qcap nb ncap ib icap x y z : Nat} (hT : Trie tx) (hfew : tx.length < 1073741824) (hmem : ∀ s, s ∈ strs → s ∈ tx) (hcnt : strs.length < 1073741824) (hshort : ∀ u, u ∈ tx → u.length < 1073741823)
    (hM : TM B0 w4 sb mb tx (idsOf strs) pb pcap qb qcap nb ncap ib icap) (hx : w4.heap.size ≤ x) (hy : w4.heap.size ≤ y) (hz : w4.heap.size ≤ z) (nxy : x ≠ y) (nxz : x ≠ z) (nyz : y ≠ z)
    (hS : Str w5 sb (root tx) mb (.slice (some ⟨x, 0, none⟩) tx.length tx.length) (.slice (some ⟨y, 0, none⟩) tx.length tx.length) (.slice (some ⟨z, 0, none⟩) tx.length tx.length)) (hg : w4.grownBy w5 (some sb)) (v : Value) :
    CX w4.heap.size (w5.setCell ⟨z, 0, none⟩ v).drew tx strs sb mb tx.length pb pcap qb qcap nb ncap ib icap x y z := by
  have hgs := grown_setCell w5 ⟨z, 0, none⟩ v
  have l1 := hM.str.lt
  have l2 := hM.map.lt
  have l3 := hM.par.lt
  have l4 := hM.lab.lt
  have l5 := hM.len.lt
  have l6 := hM.idx.lt
  have m2 := (hM.map.kept hg (by simpa using (hM.str.ne_map hM.map).symm)).kept hgs (by simp; omega)
  have m3 := (hM.par.kept hg (by simpa using hM.par.ne_str hM.str (by decide))).kept hgs (by simp; omega)
  have m4 := (hM.lab.kept hg (by simpa using hM.lab.ne_str hM.str (by decide))).kept hgs (by simp; omega)
  have m5 := (hM.len.kept hg (by simpa using hM.len.ne_str hM.str (by decide))).kept hgs (by simp; omega)
  have m6 := (hM.idx.kept hg (by simpa using hM.idx.ne_str hM.str (by decide))).kept hgs (by simp; omega)
  exact ⟨hT, hfew, hmem, hcnt, hshort, (hS.kept hgs (by simp; omega)).same rfl, m2.same rfl, m3.same rfl, m4.same rfl, m5.same rfl, m6.same rfl, ⟨l1, l2, l3, l4, l5, l6⟩, ⟨hx, hy, hz⟩, nxy, nxz, nyz⟩

theorem rows0 {w5 : World} {tx strs : List (List UInt8)} {x y z : Nat} (hT : Trie tx) (nxz : x ≠ z) (nyz : y ≠ z) (r1 : Row w5 21 x tx.length (zeros tx.length)) (r2 : Row w5 21 y tx.length (zeros tx.length)) (r3 : Row w5 21 z tx.length (zeros tx.length)) :
    R3 (w5.setCell ⟨z, 0, none⟩ (.int .i32 (idsOf strs []))).drew tx strs (dnq tx 1 0) x y z := by
  have hzero : ∀ g, Row w5 21 g tx.length (zeros tx.length) → NRow w5 g tx.length tx (fun _ => 0) := by
    intro g h
    unfold NRow
    rw [show (tx.map fun _ => Value.int .i32 0) = zeros tx.length from by simp [zeros, List.map_const']]
    exact h
  have hd : ∀ v, v ∈ tx → dnq tx 1 0 v = decide (v = []) := by
    intro v hv
    unfold dnq
    simp only [List.take_zero, List.not_mem_nil, decide_false, Bool.and_false, Bool.or_false]
    rw [Bool.eq_iff_iff, decide_eq_true_eq, decide_eq_true_eq]
    constructor
    · intro h; exact List.eq_nil_of_length_eq_zero (by omega)
    · intro h; rw [h]; decide
  refine ⟨?_, ?_, ?_⟩
  · refine NRow.congr (Row.drew (NRow.other (hzero x r1) nxz _)) fun v hv => ?_
    rw [hd v hv]
    by_cases h : v = []
    · subst h; simp [lpp_nil, hT.ix_nil]
    · simp [h]
  · refine NRow.congr (Row.drew (NRow.other (hzero y r2) nyz _)) fun v hv => ?_
    rw [hd v hv]
    by_cases h : v = []
    · subst h; simp [lg_nil]
    · simp [h]
  · have hp := NRow.put (u := []) (F' := fun v => if v = [] then idsOf strs [] else 0) (hzero z r3) hT hT.nil_mem (idsOf strs []) (fun v hv => rfl)
    rw [hT.ix_nil] at hp
    refine NRow.congr (Row.drew hp) fun v hv => ?_
    rw [hd v hv]
    by_cases h : v = []
    · subst h; simp [pre_nil]
    · simp [h]

theorem LV.kept {B B' : Nat} {w w' : World} {tx : List (List UInt8)} {j M ob ocap : Nat} {G C : Nat → Nat} (h : LV B w tx j M ob ocap G C) (hob : w'.heap[ob]? = w.heap[ob]?) (hG : ∀ n, n < M → lev tx j n ≠ [] → w'.heap[G n]? = w.heap[G n]?) : LV B w' tx j M ob ocap G C :=
  ⟨h.out.same hob, fun n hn hne => ⟨(h.inn n hn hne).1.same (hG n hn hne), (h.inn n hn hne).2⟩, h.inj, h.all, h.lo⟩

set_option maxRecDepth 100000 in
set_option maxHeartbeats 1000000 in
theorem segEnd (a : Act) (w : World) (hF : Fr 285 a) (sb : Nat) (s3 : sl a 3 = .pointer (some ⟨sb, 0, none⟩)) (R : Ending → World → Prop) (hR : R (.returned (.pointer (some ⟨sb, 0, none⟩))) w) :
    Code.wp Try.prog (cr (cr (cr (cr (pE (bodyOf Try.f47)))))) (bodyPost Try.prog Try.f47 R) a w := by
  have e := fr285 hF
  simp only [s3] at e
  rw [e]
  clear e s3
  conv => arg 2; whnf
  go_wp2_with fail
  exact hR

theorem pE_is : Code.seq (cl (pE (bodyOf Try.f47))) (.seq (cl (cr (pE (bodyOf Try.f47)))) (.seq (cl (cr (cr (pE (bodyOf Try.f47))))) (.seq (.seq (cl (cl (cr (cr (cr (pE (bodyOf Try.f47))))))) (pF (bodyOf Try.f47))) (cr (cr (cr (cr (pE (bodyOf Try.f47))))))))) = pE (bodyOf Try.f47) := by kernel_rfl

theorem tr_short {l : List (List UInt8)} : ∀ u, u ∈ tr l → u.length ≤ sumLen l := by
  refine snoc_ind (P := fun l => ∀ u, u ∈ tr l → u.length ≤ sumLen l) ?_ ?_ l
  · intro u hu
    simp [tr] at hu
    simp [hu]
  · intro l s ih u hu
    rw [tr_snoc] at hu
    rw [sumLen_snoc]
    have : ∀ s' u, u ∈ addT (tr l) s' → u ∈ tr l ∨ u.length ≤ s'.length := by
      intro s'
      induction s' with
      | nil => intro u hu; exact .inl hu
      | cons b t iht =>
        intro u hu
        unfold addT at hu
        split at hu
        · rcases iht u hu with h | h
          · exact .inl h
          · exact .inr (by simp; omega)
        · rcases List.mem_append.1 hu with hu | hu
          · rcases iht u hu with h | h
            · exact .inl h
            · exact .inr (by simp; omega)
          · simp only [List.mem_singleton] at hu
            subst hu
            exact .inr (Nat.le_refl _)
    rcases this s u hu with h | h
    · have := ih u h; omega
    · omega

set_option maxRecDepth 100000 in
/-- newStringSet: the automaton of the strings, in memory of its own. -/
theorem new_any (strs : List ByteArray) (ao : Option Addr) (cap : Nat) (w : World) (hA : StrsAt w ao strs) (hlen : 1 + sumLen (strs.map bsl) < 1073741823) (hcnt : strs.length < 1073741824) :
    Calls Try.prog 47 #[.slice ao strs.length cap] w fun e w' => ∃ sb, e = .returned (.pointer (some ⟨sb, 0, none⟩)) ∧ SetIs w' w.heap.size w'.heap.size sb (strs.map bsl) ∧ Below w.heap.size w w' := by
  refine calls_of_wp Try.func47 (c := bodyOf Try.f47) (by kernel_rfl) ?_
  generalize hR : (fun (e : Ending) (w' : World) => ∃ sb, e = .returned (.pointer (some ⟨sb, 0, none⟩)) ∧ SetIs w' w.heap.size w'.heap.size sb (strs.map bsl) ∧ Below w.heap.size w w') = R
  have hF0 : Fr 285 { tmps := #[.slice ao strs.length cap] ++ Array.replicate (Try.f47.ntmps - #[Value.slice ao strs.length cap].size) undef, defers := [] } := ⟨by simp [Try.ntmps47], rfl⟩
  have hs0 : sl { tmps := #[.slice ao strs.length cap] ++ Array.replicate (Try.f47.ntmps - #[Value.slice ao strs.length cap].size) undef, defers := [] } 0 = .slice ao strs.length cap := by simp [sl, Array.getD]
  generalize (Act.mk (#[.slice ao strs.length cap] ++ Array.replicate (Try.f47.ntmps - #[Value.slice ao strs.length cap].size) undef) []) = a0 at *
  rw [← hd0_is]
  refine start _ _ a0 w _ hF0 strs ao cap hs0 ?_
  intro a1 w1 sb mb hI1
  refine loop1 hA (Nat.le_refl _) (by omega) hcnt hI1 _ ?_
  intro a2 w2 hI2
  show Code.wp Try.prog (cr (cr (cr (cr (bodyOf Try.f47))))) (bodyPost Try.prog Try.f47 R) a2 w2
  obtain ⟨hF2, s3, _, _, _, ⟨pb, pcap, qb, qcap, nb, ncap, ib, icap, hM, s4, s5, s6, s7⟩, hbel2⟩ := hI2
  rw [List.take_of_length_le (by simp)] at hM s4 s5 s6 s7
  have hT := tr_trie (strs.map bsl)
  have htl := tr_len (strs.map bsl)
  have hmem := tr_mem (strs.map bsl)
  have hshort := tr_short (l := strs.map bsl)
  generalize tr (strs.map bsl) = tx at *
  have hcnt' : (strs.map bsl).length < 1073741824 := by simpa using hcnt
  generalize hss : strs.map bsl = ss at *
  clear hI1 hA hss
  rw [← pD_is]
  refine segD _ _ a2 w2 _ hF2 tx.length nb ncap s6 ?_
  intro a3 hF3 hk3 t15 t112 t113 t114
  have hrow0 : Row (w2.alloc (.cells #[nilS] 46)) 46 w2.heap.size 1 [] := Row.made0 w2 46 #[nilS] (by decide)
  refine loop3 (B := w2.heap.size) (a0 := a3) (w0 := w2) (tx := tx) (nb := nb) (ncap := ncap) (M := 0) (by omega) (fun u hu => by have := hshort u hu; omega) hM.len hM.len.lt (Nat.le_refl _)
    ⟨hF3, fun _ _ => rfl, t112, t113, t114, ⟨w2.heap.size, 1, fun _ => 0, fun _ => 0, LV.start hrow0 (Nat.le_refl _), t15⟩, (Below.refl _ _).alloc (Nat.le_refl _) _⟩ (by decide) _ ?_
  intro a4 w4 M hI4 hMb
  show Code.wp Try.prog (pE (bodyOf Try.f47)) (bodyPost Try.prog Try.f47 R) a4 w4
  obtain ⟨hF4, hk4, _, _, _, ⟨ob, ocap, G, C, hLV, u15⟩, hbel4⟩ := hI4
  have hk34 : Keeps [3, 4, 5, 6, 7] a2 a4 := hk3.trans hk4
  have hM4 := hM.below hbel4 (Nat.le_refl _)
  have hB4 : Below w.heap.size w w4 := hbel2.trans (hbel4.mono hM.size)
  have hpos : 0 < tx.length := by have := ix_lt hT.nil_mem; omega
  have hM1 : 1 ≤ M := by have := hLV.all 0 hpos; omega
  rw [← pE_is]
  refine wp_seq ?_
  refine segE a4 w4 _ hF4 tx.length pb pcap ((hk34.at 4).trans s4) ?_
  intro a5 hF5 hk5 t18
  refine wp_seq ?_
  have hk5' : Keeps [3, 4, 5, 6, 7] a2 a5 := hk34.trans (hk5.sub (by intro i hi; simp only [List.mem_cons, List.not_mem_nil, or_false] at hi ⊢; omega))
  refine seg32 a5 w4 _ hF5 sb tx.length hM4.str (by omega) ((hk5'.at 3).trans s3) t18 ?_
  intro a6 w5 x y z hF6 hk6 nxy nxz nyz hx hy hz hS5 r1 r2 r3 hg5
  have hk6' : Keeps [3, 4, 5, 6, 7] a2 a6 := hk5'.trans (hk6.sub (by intro i hi; simp only [List.mem_cons, List.not_mem_nil, or_false] at hi ⊢; omega))
  refine wp_seq ?_
  have hidx5 := hM4.idx.kept hg5 (by simpa using hM4.idx.ne_str hM4.str (by decide))
  have hi0 := hidx5.cellD (map_ix hT.nil_mem _)
  rw [hT.ix_nil] at hi0
  have hz0 : w5.cell? ⟨z, 0, none⟩ = some (.int .i32 0) := r3.cellD (by simp [zeros, hpos])
  refine seg33 a6 w5 _ hF6 sb z ib tx.length icap _ _ hS5.cE hi0 hz0 (r3.free 0) hpos ((hk6'.at 3).trans s3) ((hk6'.at 7).trans s7) ?_
  intro a7 hF7 hk7
  have hk7' : Keeps [3, 4, 5, 6, 7] a2 a7 := hk6'.trans (hk7.sub (by intro i hi; simp only [List.mem_cons, List.not_mem_nil, or_false] at hi ⊢; omega))
  have v15 : sl a7 15 = .slice (some ⟨ob, 0, none⟩) M ocap := by
    have h1 : sl a7 15 = sl a6 15 := hk7.at 15
    have h2 : sl a6 15 = sl a5 15 := hk6.at 15
    have h3 : sl a5 15 = sl a4 15 := hk5.at 15
    rw [h1, h2, h3, u15]
  have hX := cx_of hT (by omega) hmem hcnt' (fun u hu => by have := hshort u hu; omega) hM4 hx hy hz nxy nxz nyz hS5 hg5 (.int .i32 (idsOf ss []))
  have hR7 := rows0 (strs := ss) hT nxz nyz r1 r2 r3
  have hz2 : w4.heap.size ≤ w5.heap.size := hg5.size
  have hkeepO : ∀ g, g < w4.heap.size → g ≠ sb → (w5.setCell ⟨z, 0, none⟩ (.int .i32 (idsOf ss []))).drew.heap[g]? = w4.heap[g]? := by
    intro g hg hne
    have h1 := (grown_setCell w5 ⟨z, 0, none⟩ (.int .i32 (idsOf ss []))).block g (by omega) (by simp; omega)
    exact h1.trans (hg5.block g hg (by simpa using hne))
  have hsbB : sb < w2.heap.size := hM.str.lt
  have hLV7 : LV w2.heap.size (w5.setCell ⟨z, 0, none⟩ (.int .i32 (idsOf ss []))).drew tx tx.length M ob ocap G C :=
    hLV.kept (B' := 0) (hkeepO ob hLV.out.lt (by have := hLV.lo; omega)) (fun n hn hne => hkeepO (G n) (hLV.inn n hn hne).1.lt (by have := (hLV.inn n hn hne).2; omega))
  have hB7 : Below w.heap.size w (w5.setCell ⟨z, 0, none⟩ (.int .i32 (idsOf ss []))).drew := by
    have h1 := hB4.grown hg5 (Nat.le_trans hM.size hbel4.size) (fun k e => by cases e; exact hM.lo.1)
    exact (h1.setCell (p := ⟨z, 0, none⟩) (by show w.heap.size ≤ z; have := hB4.size; omega) _).drew
  have hsz7 : w4.heap.size ≤ (w5.setCell ⟨z, 0, none⟩ (.int .i32 (idsOf ss []))).drew.heap.size := by simpa using hz2
  generalize (w5.setCell ⟨z, 0, none⟩ (.int .i32 (idsOf ss []))).drew = w7 at *
  refine wp_seq (wp_seq ?_)
  have hoc := hLV.out.le
  simp only [List.length_map, List.length_range] at hoc
  refine seg34 a7 w7 _ hF7 M ob ocap hM1 hMb hoc.1 hoc.2 v15 ?_
  intro a8 hF8 hk8 t165 t166 t167
  have hk8' : Keeps [3, 4, 5, 6, 7] a2 a8 := hk7'.trans hk8
  refine loop5 hX hLV7 (fun n hn hne => (hLV.inn n hn hne).1.lt) hLV.out.lt hMb hM1 ⟨hF8, fun _ _ => rfl, t167, Below.refl _ _, hR7⟩ ((hk8'.at 3).trans s3) ((hk8'.at 4).trans s4) ((hk8'.at 5).trans s5) ((hk8'.at 6).trans s6) ((hk8'.at 7).trans s7) t165 t166 _ ?_
  intro a9 w9 hI9
  obtain ⟨hF9, hk9, _, hbel9, hR9⟩ := hI9
  show Code.wp Try.prog (cr (cr (cr (cr (pE (bodyOf Try.f47)))))) (bodyPost Try.prog Try.f47 R) a9 w9
  have hdone : ∀ v, v ∈ tx → dnq tx (M - 1 + 1) 0 v = true := by
    intro v hv
    refine dnq_lt v ?_
    have h1 := hLV.all _ (ix_lt hv)
    have hl : lnAt tx (ix tx v) = v.length := by simp [lnAt, get_ix hv]
    omega
  refine segEnd a9 w9 hF9 sb ((hk9.at 3).trans ((hk8'.at 3).trans s3)) R ?_
  rw [← hR]
  have hlo := hX.lo
  have hlo2 := hM.lo
  have hsz9 := hbel9.size
  have hwsz := hM.size
  have hsz4 := hbel4.size
  have e1 : ∀ g, g < w4.heap.size → w9.heap[g]? = w7.heap[g]? := fun g hg => hbel9.block g hg
  have q1 := hR9.fail.lt
  have q2 := hR9.longest.lt
  have q3 := hR9.least.lt
  refine ⟨sb, rfl, ⟨tx, mb, tx.length, x, tx.length, y, tx.length, z, tx.length, ⟨hT, by omega, hmem, by omega, hX.str.same (e1 sb hlo.1), hX.map.same (e1 mb hlo.2.1), ?_, ?_, ?_⟩, ⟨hlo2.1, by omega⟩, ⟨hlo2.2.1, by omega⟩, ⟨by omega, q1⟩, ⟨by omega, q2⟩, ⟨by omega, q3⟩⟩, hB7.trans (hbel9.mono (by omega))⟩
  · exact hR9.fail.congr fun v hv => by rw [if_pos (hdone v hv)]
  · exact hR9.longest.congr fun v hv => by rw [if_pos (hdone v hv)]
  · exact hR9.least.congr fun v hv => by rw [if_pos (hdone v hv)]; rfl
#print axioms new_any
end Go.Proofs.Qxb6000411a
