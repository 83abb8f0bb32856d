/-
  newStringSet: the loops over the levels and over a level's states (stringset.go:69 to 83).
-/
import Derived.Test.Qxb6000411aStateW
namespace Go.Proofs.Qxb6000411a
open Go.RowKit Go.Maps Pl
set_option linter.unusedVariables false

structure R3 (w : World) (tx strs : List (List UInt8)) (dn : List UInt8 → Bool) (fb gb eb : Nat) : Prop where
  fail : NRow w fb tx.length tx (fun v => if dn v then (ix tx (lpp tx v) : Int) else 0)
  longest : NRow w gb tx.length tx (fun v => if dn v then (lg strs v : Int) else 0)
  least : NRow w eb tx.length tx (fun v => if dn v then pre strs v else 0)

theorem R3.congr {w : World} {tx strs : List (List UInt8)} {dn dn' : List UInt8 → Bool} {fb gb eb : Nat} (h : R3 w tx strs dn fb gb eb) (hd : ∀ v, v ∈ tx → dn' v = dn v) : R3 w tx strs dn' fb gb eb :=
  ⟨h.fail.congr fun v hv => by rw [hd v hv], h.longest.congr fun v hv => by rw [hd v hv], h.least.congr fun v hv => by rw [hd v hv]⟩

section
variable {B : Nat} {w3 : World} {tx strs : List (List UInt8)} {sb mb k pb pcap qb qcap nb ncap ib icap fb gb eb : Nat}

theorem stateV (hX : CX B w3 tx strs sb mb k pb pcap qb qcap nb ncap ib icap fb gb eb) {u : List UInt8} (hu : u ∈ tx) (hne : u ≠ []) (a : Act) (w : World) (Q : Exit → Act → World → Prop) (hF : Fr 285 a) (hbel : Below B w3 w) (lvb lc m q : Nat) (hq : q < m) (hm : m < 1073741824)
    (hlv : w.cell? ⟨lvb, q, none⟩ = some (.int .i32 (ix tx u : Int))) {dn : List UInt8 → Bool} (hR : R3 w tx strs dn fb gb eb) (hdn : ∀ v, v ∈ tx → v.length < u.length → dn v = true)
    (s3 : sl a 3 = .pointer (some ⟨sb, 0, none⟩)) (s4 : sl a 4 = .slice (some ⟨pb, 0, none⟩) tx.length pcap) (s5 : sl a 5 = .slice (some ⟨qb, 0, none⟩) tx.length qcap) (s6 : sl a 6 = .slice (some ⟨nb, 0, none⟩) tx.length ncap) (s7 : sl a 7 = .slice (some ⟨ib, 0, none⟩) tx.length icap)
    (s171 : sl a 171 = .slice (some ⟨lvb, 0, none⟩) m lc) (s173 : sl a 173 = .int .i64 (q : Int))
    (hK : ∀ a' w', Fr 285 a' → Keeps kW a a' → Below B w3 w' → R3 w' tx strs (fun v => dn v || v == u) fb gb eb → Q .normal a' w') :
    Code.wp Try.prog (pV (bodyOf Try.f47)) Q a w := by
  have hT := hX.trie
  have hpm := lpp_mem hT.nil_mem u
  have hlt := lpp_lt (tx := tx) hne
  have hhi := hX.hi
  have hdp := hdn _ hpm hlt
  rw [← rA_is]
  refine partA hX hu hne _ a w Q hF hbel lvb lc m q hq hm hlv hR.fail (fun v hv hl => by rw [if_pos (hdn v hv hl)]) (by by_cases h : dn u = true <;> simp [h]) s3 s4 s5 s171 s173 ?_
  intro a1 w1 F1 hF1 hk1 t22 hw1 hf1 hF1v
  have hb1 : Below B w3 w1 := by
    rcases hw1 with rfl | rfl
    · exact hbel
    · exact (hbel.setCell (p := ⟨fb, ix tx u, none⟩) hhi.1 _).drew
  have hg1 : NRow w1 gb tx.length tx (fun v => if dn v then (lg strs v : Int) else 0) := by
    rcases hw1 with rfl | rfl
    · exact hR.longest
    · exact Row.drew (NRow.other hR.longest hX.fg.symm _)
  have he1 : NRow w1 eb tx.length tx (fun v => if dn v then pre strs v else 0) := by
    rcases hw1 with rfl | rfl
    · exact hR.least
    · exact Row.drew (NRow.other hR.least hX.fe.symm _)
  rw [← rB_is]
  refine partB hX hu hne _ a1 w1 Q hF1 hb1 hf1 hg1 he1 (by rw [hF1v u hu, if_pos rfl]) ((hk1.at 3).trans s3) t22 ?_
  intro a2 hF2 hk2
  have hf2 : NRow ((w1.setCell ⟨gb, ix tx u, none⟩ (.int .i32 (if dn (lpp tx u) then (lg strs (lpp tx u) : Int) else 0))).setCell ⟨eb, ix tx u, none⟩ (.int .i32 (if dn (lpp tx u) then pre strs (lpp tx u) else 0))).drew fb tx.length tx F1 :=
    Row.drew (NRow.other (NRow.other hf1 hX.fg _) hX.fe _)
  have hg2 : NRow ((w1.setCell ⟨gb, ix tx u, none⟩ (.int .i32 (if dn (lpp tx u) then (lg strs (lpp tx u) : Int) else 0))).setCell ⟨eb, ix tx u, none⟩ (.int .i32 (if dn (lpp tx u) then pre strs (lpp tx u) else 0))).drew gb tx.length tx (fun v => if v = u then (if dn (lpp tx u) then (lg strs (lpp tx u) : Int) else 0) else if dn v then (lg strs v : Int) else 0) :=
    Row.drew (NRow.other (NRow.put hg1 hT hu _ (fun v hv => rfl)) hX.ge _)
  have he2 : NRow ((w1.setCell ⟨gb, ix tx u, none⟩ (.int .i32 (if dn (lpp tx u) then (lg strs (lpp tx u) : Int) else 0))).setCell ⟨eb, ix tx u, none⟩ (.int .i32 (if dn (lpp tx u) then pre strs (lpp tx u) else 0))).drew eb tx.length tx (fun v => if v = u then (if dn (lpp tx u) then pre strs (lpp tx u) else 0) else if dn v then pre strs v else 0) :=
    Row.drew (NRow.put (NRow.other he1 hX.ge.symm _) hT hu _ (fun v hv => rfl))
  have hb2 : Below B w3 ((w1.setCell ⟨gb, ix tx u, none⟩ (.int .i32 (if dn (lpp tx u) then (lg strs (lpp tx u) : Int) else 0))).setCell ⟨eb, ix tx u, none⟩ (.int .i32 (if dn (lpp tx u) then pre strs (lpp tx u) else 0))).drew :=
    ((hb1.setCell (p := ⟨gb, ix tx u, none⟩) hhi.2.1 _).setCell (p := ⟨eb, ix tx u, none⟩) hhi.2.2 _).drew
  generalize ((w1.setCell ⟨gb, ix tx u, none⟩ (.int .i32 (if dn (lpp tx u) then (lg strs (lpp tx u) : Int) else 0))).setCell ⟨eb, ix tx u, none⟩ (.int .i32 (if dn (lpp tx u) then pre strs (lpp tx u) else 0))).drew = w2 at *
  have hk12 : Keeps kW a a2 := hk1.trans (hk2.sub (by intro i hi; simp only [kW, kV, List.mem_cons, List.not_mem_nil, or_false] at hi ⊢; omega))
  refine partC hX hu a2 w2 Q hF2 hb2 hf2 hg2 he2 ((hk12.at 3).trans s3) ((hk12.at 6).trans s6) ((hk12.at 7).trans s7) ((hk2.at 22).trans t22) ?_
  intro a3 w3' G' E' hF3 hk3 hb3 hf3 hg3 he3 hG hE
  refine hK a3 w3' hF3 (hk12.trans (hk3.sub (by intro i hi; simp only [kW, kV, List.mem_cons, List.not_mem_nil, or_false] at hi ⊢; omega))) hb3 ⟨hf3.congr ?_, hg3.congr ?_, he3.congr ?_⟩
  · intro v hv
    rw [hF1v v hv]
    by_cases hvu : v = u
    · subst hvu; simp
    · simp [hvu]
  · intro v hv
    rw [hG v hv]
    by_cases hvu : v = u
    · subst hvu
      simp only [true_and, if_true, hdp, beq_self_eq_true, Bool.or_true]
      rw [lg_lpp hX.mem v]
      have hiff : 0 ≤ idsOf strs v ↔ v ∈ strs := lb_eq_nonneg v
      by_cases hin : v ∈ strs
      · rw [if_pos hin, if_pos (hiff.2 hin)]
      · rw [if_neg hin, if_neg (fun h => hin (hiff.1 h))]
    · simp [hvu]
  · intro v hv
    rw [hE v hv]
    by_cases hvu : v = u
    · subst hvu
      simp only [if_true, hdp, beq_self_eq_true, Bool.or_true]
      exact lb_lpp hX.mem v
    · simp [hvu]

def dnq (tx : List (List UInt8)) (n q : Nat) (v : List UInt8) : Bool := decide (v.length < n) || (decide (v.length = n) && decide (ix tx v ∈ (lev tx tx.length n).take q))

theorem lev_get {n q : Nat} (hq : q < (lev tx tx.length n).length) (hT : Trie tx) : ∃ u, u ∈ tx ∧ u.length = n ∧ ix tx u = (lev tx tx.length n)[q] := by
  have hm := List.getElem_mem hq
  obtain ⟨h1, h2⟩ := mem_lev.1 hm
  generalize (lev tx tx.length n)[q] = i at *
  have hg := List.getElem?_eq_getElem h1
  refine ⟨tx[i], List.getElem_mem h1, ?_, hT.ix_get hg⟩
  rw [← h2]
  simp [lnAt, h1]
theorem dnq_succ {n q : Nat} (hq : q < (lev tx tx.length n).length) {u : List UInt8} (hu : u ∈ tx) (hul : u.length = n) (hui : ix tx u = (lev tx tx.length n)[q]) : ∀ v, v ∈ tx → dnq tx n (q + 1) v = (dnq tx n q v || v == u) := by
  intro v hv
  unfold dnq
  rw [List.take_succ_eq_append_getElem hq, ← hui]
  have h1 : (ix tx v ∈ (lev tx tx.length n).take q ++ [ix tx u]) ↔ (ix tx v ∈ (lev tx tx.length n).take q ∨ v = u) := by
    rw [List.mem_append, List.mem_singleton]
    exact ⟨fun h => h.elim .inl fun e => .inr (ix_inj hv hu e), fun h => h.elim .inl fun e => .inr (by rw [e])⟩
  rw [Bool.eq_iff_iff]
  simp only [Bool.or_eq_true, Bool.and_eq_true, decide_eq_true_eq, beq_iff_eq, h1]
  constructor
  · rintro (h | ⟨h, h2 | h2⟩)
    · exact .inl (.inl h)
    · exact .inl (.inr ⟨h, h2⟩)
    · exact .inr h2
  · rintro ((h | ⟨h, h2⟩) | h)
    · exact .inl h
    · exact .inr ⟨h, .inl h2⟩
    · exact .inr ⟨by rw [h]; exact hul, .inr h⟩
theorem dnq_end {n : Nat} (hT : Trie tx) : ∀ v, v ∈ tx → dnq tx (n + 1) 0 v = dnq tx n (lev tx tx.length n).length v := by
  intro v hv
  unfold dnq
  have hx := ix_lt hv
  have hg := get_ix hv
  have hl : lnAt tx (ix tx v) = v.length := by simp [lnAt, hg]
  rw [List.take_length, Bool.eq_iff_iff]
  simp only [Bool.or_eq_true, Bool.and_eq_true, decide_eq_true_eq, List.take_zero, List.not_mem_nil, and_false, or_false, mem_lev, hl]
  omega
theorem dnq_lt {n q : Nat} : ∀ v : List UInt8, v.length < n → dnq tx n q v = true := by
  intro v h
  simp [dnq, h]

def k6 : List Nat := [3, 4, 5, 6, 7, 165, 166, 167, 171, 172, 20]
structure I6 (B : Nat) (w3 : World) (tx strs : List (List UInt8)) (fb gb eb n : Nat) (a0 : Act) (q : Nat) (a : Act) (w : World) : Prop where
  fr : Fr 285 a
  keeps : Keeps k6 a0 a
  s173 : sl a 173 = .int .i64 (q : Int)
  below : Below B w3 w
  rows : R3 w tx strs (dnq tx n q) fb gb eb

def rnd6 (c L6 : Code) : Code := .seq (cl L6) (.seq (cl (cr L6)) (.seq (.block 11 c) (cr (cr (cr L6)))))
theorem rnd6_is : rnd6 (pV (bodyOf Try.f47)) (pL6 (bodyOf Try.f47)) = pL6 (bodyOf Try.f47) := by kernel_rfl

set_option maxRecDepth 100000 in
set_option maxHeartbeats 1000000 in
theorem round6_end {n m : Nat} {a0 a : Act} {w : World} (h : I6 B w3 tx strs fb gb eb n a0 m a w) (s172 : sl a0 172 = .int .i64 (m : Int)) (Q : Exit → Act → World → Prop)
    (hQ : ∀ a', I6 B w3 tx strs fb gb eb n a0 m a' w → Q (.exit 10) a' w) : Code.wp Try.prog (pL6 (bodyOf Try.f47)) Q a w := by
  obtain ⟨hfr, hk, s173, hbel, hR⟩ := h
  have t172 := (hk.at 172).trans s172
  have e := fr285 hfr
  simp only [s173, t172] at e
  have HQ := keep hQ
  have HR := keep hR
  have HK := keep hk
  have H172 := keep t172
  rw [e]
  clear e s173 t172 s172 hQ hR hk
  conv => arg 2; whnf
  go_wp2_with fail
  refine HQ.out _ ⟨⟨rfl, rfl⟩, ?_, rfl, hbel, HR.out⟩
  intro i hi
  rw [← HK.out i hi]
  simp only [k6, List.mem_cons, List.not_mem_nil, or_false] at hi
  rcases hi with rfl | rfl | rfl | rfl | rfl | rfl | rfl | rfl | rfl | rfl | rfl
  all_goals first | rfl | exact H172.out.symm

set_option maxRecDepth 100000 in
set_option maxHeartbeats 1000000 in
theorem round6_go (hX : CX B w3 tx strs sb mb k pb pcap qb qcap nb ncap ib icap fb gb eb) {n : Nat} (hn : 1 ≤ n) {g c q : Nat} (hq : q < (lev tx tx.length n).length) (hlev : Row w3 21 g c (ints (lev tx tx.length n))) (hgB : g < B) {a0 a : Act} {w : World} (h : I6 B w3 tx strs fb gb eb n a0 q a w)
    (s3 : sl a0 3 = .pointer (some ⟨sb, 0, none⟩)) (s4 : sl a0 4 = .slice (some ⟨pb, 0, none⟩) tx.length pcap) (s5 : sl a0 5 = .slice (some ⟨qb, 0, none⟩) tx.length qcap) (s6 : sl a0 6 = .slice (some ⟨nb, 0, none⟩) tx.length ncap) (s7 : sl a0 7 = .slice (some ⟨ib, 0, none⟩) tx.length icap)
    (s171 : sl a0 171 = .slice (some ⟨g, 0, none⟩) (lev tx tx.length n).length c) (s172 : sl a0 172 = .int .i64 ((lev tx tx.length n).length : Int)) (Q : Exit → Act → World → Prop)
    (hQ : ∀ a' w', I6 B w3 tx strs fb gb eb n a0 (q + 1) a' w' → Q .normal a' w') : Code.wp Try.prog (pL6 (bodyOf Try.f47)) Q a w := by
  obtain ⟨hfr, hk, s173, hbel, hR⟩ := h
  have hll := lev_len tx tx.length n
  have hfew := hX.few
  obtain ⟨u, hu, hul, hui⟩ := lev_get hq hX.trie
  have hlv : w.cell? ⟨g, q, none⟩ = some (.int .i32 (ix tx u : Int)) := by
    rw [hbel.cell (p := ⟨g, q, none⟩) hgB]
    refine hlev.cellD ?_
    rw [hui]
    simp [ints, hq]
  have t172 := (hk.at 172).trans s172
  have t171 := (hk.at 171).trans s171
  have HQ := keep hQ
  have HX := keep hX
  have HR := keep hR
  have HK := keep hk
  have Hui := keep hui
  have Hs := keep (And.intro s3 (And.intro s4 (And.intro s5 (And.intro s6 s7))))
  rw [← rnd6_is]
  obtain ⟨cc, hc⟩ : ∃ c, c = pV (bodyOf Try.f47) := ⟨_, rfl⟩
  rw [← hc]
  have Hc := keep hc
  have e := fr285 hfr
  simp only [s173, t172] at e
  rw [e]
  have H172 := keep t172
  have H171 := keep t171
  have hq' : q < (lev tx tx.length n).length := hq
  clear e s173 t172 t171 s172 s171 hQ hR hk hc hui hX s3 s4 s5 s6 s7 hlev
  unfold rnd6
  conv => arg 2; arg 1; whnf
  conv => arg 2; arg 2; arg 1; whnf
  conv => arg 2; arg 2; arg 2; arg 2; whnf
  go_wp2_with fail
  rename_i K1 hK1
  rw [Hc.out]
  obtain ⟨s3, s4, s5, s6, s7⟩ := Hs.out
  have hk := HK.out
  refine stateV HX.out hu (by intro e; subst e; simp at hul; omega) _ w _ ⟨rfl, rfl⟩ hbel g c (lev tx tx.length n).length q hq (by omega) hlv HR.out (fun v hv hl => dnq_lt v (by omega)) ((hk.at 3).trans s3) ((hk.at 4).trans s4) ((hk.at 5).trans s5) ((hk.at 6).trans s6) ((hk.at 7).trans s7) H171.out rfl ?_
  intro a2 w2 hF2 hk2 hb2 hR2
  refine hK1 a2 w2 ?_
  have t173 : sl a2 173 = .int .i64 (q : Int) := hk2.at 173
  have hk3 : Keeps k6 a0 a2 := by
    intro i hi
    rw [hk2 i (by simp only [kW, k6, List.mem_cons, List.not_mem_nil, or_false] at hi ⊢; omega), ← hk i hi]
    simp only [k6, List.mem_cons, List.not_mem_nil, or_false] at hi
    rcases hi with rfl | rfl | rfl | rfl | rfl | rfl | rfl | rfl | rfl | rfl | rfl
    all_goals first | rfl | exact H172.out.symm
  have HK3 := keep hk3
  have HR2 := keep (hR2.congr (dnq_succ hq hu hul Hui.out))
  have e2 := fr285 hF2
  simp only [t173] at e2
  rw [e2]
  clear e2 t173 hk3 hk2 hR2 hK1 hF2 hk
  go_wp2_with fail
  refine HQ.out _ _ ⟨⟨rfl, rfl⟩, ?_, by show _ = _; go_num, hb2, HR2.out⟩
  intro i hi
  rw [← HK3.out i hi]
  simp only [k6, List.mem_cons, List.not_mem_nil, or_false] at hi
  rcases hi with rfl | rfl | rfl | rfl | rfl | rfl | rfl | rfl | rfl | rfl | rfl
  all_goals rfl
end
end Go.Proofs.Qxb6000411a
