/-
  The law FnEqualIgnoresOtherFields: its walk.
-/
import Derived.Test.Qxb6600637aEq
namespace Go.Proofs.Qxb6600637a
open Go.RowKit
set_option linter.unusedVariables false

set_option maxRecDepth 100000 in
set_option maxHeartbeats 2000000 in
theorem zzequal_of (w : World) (k1 k2 : Int) (s1 s2 : ByteArray) (f1 f2 : Nat) (b1 b2 : Bool) (a1 a2 : Option Addr) (n1 n2 c1 c2 : Nat) (r : Bool)
    (hc : ∀ w', Below w.heap.size w w' → Calls Try.prog 33 #[val k1 s1 f1 b1 a1 n1 c1, val k2 s2 f2 b2 a2 n2 c2] w' fun e w'' => e = .returned (.bool r) ∧ Below w'.heap.size w' w'') :
    Calls Try.prog 13 #[val k1 s1 f1 b1 a1 n1 c1, val k2 s2 f2 b2 a2 n2 c2] w fun e w' => e = .returned (.bool r) ∧ Below w.heap.size w w' := by
  have Hc := keep hc
  clear hc
  unfold val at *
  go_enter Try.func13, Try.ntmps13
  go_wp2_with fail
  generalize hW : ((w.alloc (Obj.cells #[Value.int .u8 k1, .string s1, .float .f64 f1, .bool b1, .slice a1 n1 c1] 28)).alloc (Obj.cells #[Value.int .u8 k2, .string s2, .float .f64 f2, .bool b2, .slice a2 n2 c2] 28)) = W
  have hb : Below w.heap.size w W := by
    rw [← hW]
    exact ((Below.refl _ _).alloc (Nat.le_refl _) _).alloc (by rw [World.size_alloc]; omega) _
  have Hb := keep hb
  refine (Hc.out W hb).mono ?_
  rintro e w' ⟨rfl, hb'⟩
  have Hb' := keep hb'
  clear hb hb'
  go_wp2_with fail
  go_ret
  exact ⟨rfl, Hb.out.trans (Hb'.out.mono Hb.out.size)⟩

theorem SC.below {w w' : World} {ao : Option Addr} {ss : List ByteArray} (h : SC w ao ss) (hb : Below w.heap.size w w') : SC w' ao ss := by
  rcases h with h | ⟨b, off, h1, h2, h3⟩
  · exact .inl h
  · exact .inr ⟨b, off, h1, Nat.lt_of_lt_of_le h2 hb.size, fun i hi => by rw [hb.cell (p := ⟨b, off + i, none⟩) h2]; exact h3 i hi⟩

/-- A Value in memory. -/
structure VAt (w : World) (p : Nat) (k : Int) (s : ByteArray) (f : Nat) (b : Bool) (ao : Option Addr) (n cap : Nat) : Prop where
  lt : p < w.heap.size
  c0 : w.cell? ⟨p, 0, none⟩ = some (.int .u8 k)
  c1 : w.cell? ⟨p, 1, none⟩ = some (.string s)
  c2 : w.cell? ⟨p, 2, none⟩ = some (.float .f64 f)
  c3 : w.cell? ⟨p, 3, none⟩ = some (.bool b)
  c4 : w.cell? ⟨p, 4, none⟩ = some (.slice ao n cap)
  z0 : w.frozen? ⟨p, 0, none⟩ = false
  z1 : w.frozen? ⟨p, 1, none⟩ = false
  z2 : w.frozen? ⟨p, 2, none⟩ = false
  z3 : w.frozen? ⟨p, 3, none⟩ = false
  z4 : w.frozen? ⟨p, 4, none⟩ = false
theorem VAt.same {w w' : World} {p : Nat} {k : Int} {s : ByteArray} {f : Nat} {b : Bool} {ao : Option Addr} {n cap : Nat} (h : VAt w p k s f b ao n cap) (hs : w.heap.size ≤ w'.heap.size) (hh : w'.heap[p]? = w.heap[p]?) : VAt w' p k s f b ao n cap := by
  have e1 : ∀ i, w'.cell? ⟨p, i, none⟩ = w.cell? ⟨p, i, none⟩ := fun i => World.cell?_of_block hh
  have e2 : ∀ i, w'.frozen? ⟨p, i, none⟩ = w.frozen? ⟨p, i, none⟩ := fun i => World.frozen?_of_block hh
  obtain ⟨h0, h1, h2, h3, h4, h5, h6, h7, h8, h9, h10⟩ := h
  exact ⟨Nat.lt_of_lt_of_le h0 hs, by rw [e1]; exact h1, by rw [e1]; exact h2, by rw [e1]; exact h3, by rw [e1]; exact h4, by rw [e1]; exact h5, by rw [e2]; exact h6, by rw [e2]; exact h7, by rw [e2]; exact h8, by rw [e2]; exact h9, by rw [e2]; exact h10⟩
theorem VAt.below {w w' : World} {p : Nat} {k : Int} {s : ByteArray} {f : Nat} {b : Bool} {ao : Option Addr} {n cap B : Nat} (h : VAt w p k s f b ao n cap) (hb : Below B w w') (hp : p < B) : VAt w' p k s f b ao n cap :=
  h.same hb.size (hb.block p hp)
theorem VAt.made (w : World) (k : Int) (s : ByteArray) (f : Nat) (b : Bool) (ao : Option Addr) (n cap : Nat) : VAt (w.alloc (.cells #[.int .u8 k, .string s, .float .f64 f, .bool b, .slice ao n cap] 28)) w.heap.size k s f b ao n cap := by
  constructor <;> simp

/-- The store of a whole Value. -/
def putV (w : World) (q : Nat) (k : Int) (s : ByteArray) (f : Nat) (b : Bool) (ao : Option Addr) (n cap : Nat) : World :=
  ((((w.setCell ⟨q, 0, none⟩ (.int .u8 k)).setCell ⟨q, 1, none⟩ (.string s)).setCell ⟨q, 2, none⟩ (.float .f64 f)).setCell ⟨q, 3, none⟩ (.bool b)).setCell ⟨q, 4, none⟩ (.slice ao n cap)
theorem putV_grown (w : World) (q : Nat) (k : Int) (s : ByteArray) (f : Nat) (b : Bool) (ao : Option Addr) (n cap : Nat) : w.grownBy (putV w q k s f b ao n cap) (some q) := by
  have g : ∀ (w : World) (i : Nat) (v : Value), w.grownBy (w.setCell ⟨q, i, none⟩ v) (some q) := fun w i v => ⟨rfl, rfl, rfl, by simp, fun j _ hne => Below.heap_setCell w ⟨q, i, none⟩ v j (fun e => hne (by rw [e]))⟩
  exact ((((g _ _ _).trans (g _ _ _)).trans (g _ _ _)).trans (g _ _ _)).trans (g _ _ _)
theorem VAt.put {w : World} {p : Nat} {k k' : Int} {s s' : ByteArray} {f f' : Nat} {b b' : Bool} {ao ao' : Option Addr} {n cap n' cap' : Nat} (h : VAt w p k s f b ao n cap) : VAt (putV w p k' s' f' b' ao' n' cap') p k' s' f' b' ao' n' cap' := by
  have hs := (putV_grown w p k' s' f' b' ao' n' cap').size
  obtain ⟨h0, h1, h2, h3, h4, h5, h6, h7, h8, h9, h10⟩ := h
  have ne : ∀ {i j : Nat}, i ≠ j → (⟨p, i, none⟩ : Addr) ≠ ⟨p, j, none⟩ := fun h e => h (by injection e)
  have o : ∀ {w : World} {i j : Nat} {v : Value}, i ≠ j → (w.setCell ⟨p, i, none⟩ v).cell? ⟨p, j, none⟩ = w.cell? ⟨p, j, none⟩ := fun h => World.cell?_setCell_other _ _ _ _ (ne h)
  refine ⟨Nat.lt_of_lt_of_le h0 hs, ?_, ?_, ?_, ?_, ?_, ?_, ?_, ?_, ?_, ?_⟩ <;> unfold putV
  · rw [o (by decide), o (by decide), o (by decide), o (by decide)]; exact World.cell?_setCell_same _ _ _ h1
  · rw [o (by decide), o (by decide), o (by decide)]; exact World.cell?_setCell_same _ _ _ (by rw [o (by decide)]; exact h2)
  · rw [o (by decide), o (by decide)]; exact World.cell?_setCell_same _ _ _ (by rw [o (by decide), o (by decide)]; exact h3)
  · rw [o (by decide)]; exact World.cell?_setCell_same _ _ _ (by rw [o (by decide), o (by decide), o (by decide)]; exact h4)
  · exact World.cell?_setCell_same _ _ _ (by rw [o (by decide), o (by decide), o (by decide), o (by decide)]; exact h5)
  · simp only [World.frozen?_setCell]; exact h6
  · simp only [World.frozen?_setCell]; exact h7
  · simp only [World.frozen?_setCell]; exact h8
  · simp only [World.frozen?_setCell]; exact h9
  · simp only [World.frozen?_setCell]; exact h10
theorem VAt.off {w : World} {p q : Nat} {k k' : Int} {s s' : ByteArray} {f f' : Nat} {b b' : Bool} {ao ao' : Option Addr} {n cap n' cap' : Nat} (h : VAt w p k s f b ao n cap) (hne : p ≠ q) : VAt (putV w q k' s' f' b' ao' n' cap') p k s f b ao n cap :=
  h.same (putV_grown ..).size ((putV_grown ..).block p h.lt (by simpa using hne))

set_option maxRecDepth 100000 in
set_option maxHeartbeats 8000000 in
theorem law4 (w : World) (k : Int) (s1 s2 : ByteArray) (f1 f2 : Nat) (b1 b2 : Bool) (ao ao2 : Option Addr) (cap cap2 : Nat) (ss ss2 : List ByteArray) (hv : SC w ao ss) (hv2 : SC w ao2 ss2) (hlen : ss.length ≤ maxLen) (hlen2 : ss2.length ≤ maxLen) (h1 : s1.size ≤ maxLen) (h2 : s2.size ≤ maxLen) :
    Calls Try.prog 4 #[.int .u8 k, .string s1, .float .f64 f1, .bool b1, .slice ao ss.length cap, .string s2, .float .f64 f2, .bool b2, .slice ao2 ss2.length cap2] w fun e w' => e = .returned (.bool true) ∧ Below w.heap.size w w' := by
  have c14 := keep (zzBytes14 w k s1 s2 f1 f2 b1 b2 ao ao2 cap cap2 ss ss2 hv hv2 hlen hlen2 h1 h2)
  have c11 := keep (stringsBytes_any w ao cap ss hv)
  have c11b := keep (stringsBytes_any w ao2 cap2 ss2 hv2)
  have Hv := keep hv
  have Hv2 := keep hv2
  unfold maxLen at hlen hlen2 h1 h2
  clear hv hv2
  go_enter Try.func4, Try.ntmps4
  go_wp2_with fail
  refine c14.out.mono ?_
  rintro e w' ⟨b, rfl, hw⟩
  rw [hw]
  clear hw w' c14
  cases b with
  | false =>
    go_wp2_with fail
    go_ret
    exact ⟨rfl, Below.refl _ _⟩
  | true =>
    by_cases g1 : s1.size ≤ 1048576
    · have g1' : decide ((1048576 : Int) < (s1.size : Int)) = false := by rw [decide_eq_false_iff_not]; omega
      by_cases g2 : s2.size ≤ 1048576
      · have g2' : decide ((1048576 : Int) < (s2.size : Int)) = false := by rw [decide_eq_false_iff_not]; omega
        by_cases g3 : ss.length ≤ 65536
        · have g3' : decide ((65536 : Int) < (ss.length : Int)) = false := by rw [decide_eq_false_iff_not]; omega
          by_cases g4 : ss2.length ≤ 65536
          · have g4' : decide ((65536 : Int) < (ss2.length : Int)) = false := by rw [decide_eq_false_iff_not]; omega
            have d11 := keep (c11.out g3)
            have d11b := keep (c11b.out g4)
            clear c11 c11b
            go_wp2_with fail
            refine d11.out.mono ?_
            rintro e w' ⟨r1, rfl, hw, hr1, hr2⟩
            rw [hw]
            clear hw w'
            go_wp2_with fail
            refine d11b.out.mono ?_
            rintro e w' ⟨r2, rfl, hw, hr3, hr4⟩
            rw [hw]
            clear hw w'
            by_cases g5 : (s1.size : Int) + (s2.size : Int) + r1 + r2 ≤ 1048576
            · have hst := fun (w : World) (a : Addr) (m : Mode) (f : Nat) => run_store Try.prog w a (.float .f64 f) m rfl
              have cm := keep mkValue_any
              unfold val at cm
              go_wp2_with fail
              refine (cm.out _ _ _ _ _ _ _ _).mono ?_
              rintro e w1 ⟨rfl, hb1⟩
              have Hb1 := keep hb1
              clear hb1 d11 d11b
              go_wp2_with fail
              refine (cm.out _ _ _ _ _ _ _ _).mono ?_
              rintro e w2 ⟨rfl, hb2⟩
              have hA2 := keep ((VAt.made w1 k s1 f1 b1 ao ss.length cap).below hb2 (by rw [World.size_alloc]; omega))
              have Hb2 := keep ((Hb1.out.alloc Hb1.out.size _).trans (hb2.mono (by rw [World.size_alloc]; have := Hb1.out.size; omega)))
              have hpa : w1.heap.size < w2.heap.size := hA2.out.lt
              have hw2s := Hb2.out.size
              clear hb2 Hb1
              generalize w1.heap.size = pa at *
              by_cases k1 : k = 1
              · subst k1
                go_wp2_with fail
                refine (cm.out _ _ _ _ _ _ _ _).mono ?_
                rintro e w3 ⟨rfl, hb3⟩
                have hB3 := (VAt.made w2 1 s2 f2 b2 ao ss.length cap).below hb3 (by rw [World.size_alloc]; omega)
                have hA3 := (hA2.out.same (w' := w2.alloc (.cells #[.int .u8 1, .string s2, .float .f64 f2, .bool b2, .slice ao ss.length cap] 28)) (by rw [World.size_alloc]; omega) (Below.heap_alloc _ _ _ hpa)).below hb3 (by rw [World.size_alloc]; omega)
                have Hb3 := keep ((Hb2.out.alloc Hb2.out.size _).trans (hb3.mono (by rw [World.size_alloc]; have := Hb2.out.size; omega)))
                clear hb3 Hb2 hA2
                have hpbw : w.heap.size ≤ w2.heap.size := hw2s
                generalize w2.heap.size = pb at *
                have vA3 := keep hA3
                have vB3 := keep hB3
                obtain ⟨q0, p0, p1, p2, p3, p4, z0, z1, z2, z3, z4⟩ := hB3
                obtain ⟨q1, a0, a1, a2, a3, a4, _, _, _, _, _⟩ := hA3
                have hne : pa ≠ pb := by omega
                have hne' : pb ≠ pa := by omega
                go_wp2_with fail
                have VA := keep (vA3.out.off (k' := 1) (s' := s1) (f' := f2) (b' := b2) (ao' := ao2) (n' := ss2.length) (cap' := cap2) hne)
                have VB := keep (vB3.out.put (k' := 1) (s' := s1) (f' := f2) (b' := b2) (ao' := ao2) (n' := ss2.length) (cap' := cap2))
                have HbW := keep (Hb3.out.grown (putV_grown w3 pb 1 s1 f2 b2 ao2 ss2.length cap2) Hb3.out.size (fun q e => by cases e; exact hpbw))
                unfold putV at VA VB HbW
                clear p0 p1 p2 p3 p4 z0 z1 z2 z3 z4 q0 q1 a0 a1 a2 a3 a4
                have ce := keep (fun (w : World) (f f2 : Nat) (b b2 : Bool) (ao ao2 : Option Addr) (n n2 cap cap2 : Nat) => zzequal_of w 1 1 s1 s1 f f2 b b2 ao ao2 n n2 cap cap2 true (fun w' _ => equal_str w' s1 f f2 b b2 ao ao2 n n2 cap cap2))
                unfold val at ce
                refine (ce.out _ _ _ _ _ _ _ _ _ _ _).mono ?_
                rintro e w4 ⟨rfl, hb4⟩
                obtain ⟨_, x0, x1, x2, x3, x4, _, _, _, _, _⟩ := VA.out.below hb4 VA.out.lt
                obtain ⟨_, y0, y1, y2, y3, y4, _, _, _, _, _⟩ := VB.out.below hb4 VB.out.lt
                have HbV := keep (HbW.out.trans (hb4.mono HbW.out.size))
                go_wp2_with fail
                refine (ce.out _ _ _ _ _ _ _ _ _ _ _).mono ?_
                rintro e w5 ⟨rfl, hb5⟩
                obtain ⟨_, x0, x1, x2, x3, x4, _, _, _, _, _⟩ := (VA.out.below hb4 VA.out.lt).below hb5 (VA.out.below hb4 VA.out.lt).lt
                have HbU := keep (HbV.out.trans (hb5.mono HbV.out.size))
                go_wp2_with fail
                refine (ce.out _ _ _ _ _ _ _ _ _ _ _).mono ?_
                rintro e w6 ⟨rfl, hb6⟩
                have HbT := keep (HbU.out.trans (hb6.mono HbU.out.size))
                go_wp2_with fail
                go_ret
                exact ⟨rfl, HbT.out⟩
              · by_cases k2 : k = 2
                · subst k2
                  obtain ⟨B, hB⟩ : ∃ B, (FloatKind.f64.format.order f1 f1 == some Ordering.eq) = B := ⟨_, rfl⟩
                  have hB2 : (FloatKind.f64.format.order f1 f1 != some Ordering.eq) = !B := by rw [bne, hB]
                  cases B
                  all_goals
                    go_wp2_with fail
                    refine (cm.out _ _ _ _ _ _ _ _).mono ?_
                    rintro e w3 ⟨rfl, hb3⟩
                    have hB3 := (VAt.made w2 2 s2 f2 b2 ao ss.length cap).below hb3 (by rw [World.size_alloc]; omega)
                    have hA3 := (hA2.out.same (w' := w2.alloc (.cells #[.int .u8 2, .string s2, .float .f64 f2, .bool b2, .slice ao ss.length cap] 28)) (by rw [World.size_alloc]; omega) (Below.heap_alloc _ _ _ hpa)).below hb3 (by rw [World.size_alloc]; omega)
                    have Hb3 := keep ((Hb2.out.alloc Hb2.out.size _).trans (hb3.mono (by rw [World.size_alloc]; have := Hb2.out.size; omega)))
                    clear hb3 Hb2 hA2
                    have hpbw : w.heap.size ≤ w2.heap.size := hw2s
                    generalize w2.heap.size = pb at *
                    have vA3 := keep hA3
                    have vB3 := keep hB3
                    obtain ⟨q0, p0, p1, p2, p3, p4, z0, z1, z2, z3, z4⟩ := hB3
                    obtain ⟨q1, a0, a1, a2, a3, a4, _, _, _, _, _⟩ := hA3
                    have hne : pa ≠ pb := by omega
                    have hne' : pb ≠ pa := by omega
                    go_wp2_with fail
                    have VA := keep (vA3.out.off (k' := 2) (s' := s2) (f' := f1) (b' := b2) (ao' := ao2) (n' := ss2.length) (cap' := cap2) hne)
                    have VB := keep (vB3.out.put (k' := 2) (s' := s2) (f' := f1) (b' := b2) (ao' := ao2) (n' := ss2.length) (cap' := cap2))
                    have HbW := keep (Hb3.out.grown (putV_grown w3 pb 2 s2 f1 b2 ao2 ss2.length cap2) Hb3.out.size (fun q e => by cases e; exact hpbw))
                    unfold putV at VA VB HbW
                    clear p0 p1 p2 p3 p4 z0 z1 z2 z3 z4 q0 q1 a0 a1 a2 a3 a4
                    have ce := keep (fun (w : World) (s s2 : ByteArray) (b b2 : Bool) (ao ao2 : Option Addr) (n n2 cap cap2 : Nat) => zzequal_of w 2 2 s s2 f1 f1 b b2 ao ao2 n n2 cap cap2 _ (fun w' _ => equal_num w' s s2 f1 b b2 ao ao2 n n2 cap cap2))
                    unfold val at ce
                    rw [hB] at ce
                    refine (ce.out _ _ _ _ _ _ _ _ _ _ _).mono ?_
                    rintro e w4 ⟨rfl, hb4⟩
                    obtain ⟨_, x0, x1, x2, x3, x4, _, _, _, _, _⟩ := VA.out.below hb4 VA.out.lt
                    obtain ⟨_, y0, y1, y2, y3, y4, _, _, _, _, _⟩ := VB.out.below hb4 VB.out.lt
                    have HbV := keep (HbW.out.trans (hb4.mono HbW.out.size))
                    go_wp2_with fail
                    refine (ce.out _ _ _ _ _ _ _ _ _ _ _).mono ?_
                    rintro e w5 ⟨rfl, hb5⟩
                    obtain ⟨_, x0, x1, x2, x3, x4, _, _, _, _, _⟩ := (VA.out.below hb4 VA.out.lt).below hb5 (VA.out.below hb4 VA.out.lt).lt
                    have HbU := keep (HbV.out.trans (hb5.mono HbV.out.size))
                    go_wp2_with fail
                    refine (ce.out _ _ _ _ _ _ _ _ _ _ _).mono ?_
                    rintro e w6 ⟨rfl, hb6⟩
                    have HbT := keep (HbU.out.trans (hb6.mono HbU.out.size))
                    go_wp2_with fail
                    go_ret
                    exact ⟨rfl, HbT.out⟩
                · by_cases k3 : k = 3
                  · subst k3
                    go_wp2_with fail
                    refine (cm.out _ _ _ _ _ _ _ _).mono ?_
                    rintro e w3 ⟨rfl, hb3⟩
                    have hB3 := (VAt.made w2 3 s2 f2 b2 ao ss.length cap).below hb3 (by rw [World.size_alloc]; omega)
                    have hA3 := (hA2.out.same (w' := w2.alloc (.cells #[.int .u8 3, .string s2, .float .f64 f2, .bool b2, .slice ao ss.length cap] 28)) (by rw [World.size_alloc]; omega) (Below.heap_alloc _ _ _ hpa)).below hb3 (by rw [World.size_alloc]; omega)
                    have Hb3 := keep ((Hb2.out.alloc Hb2.out.size _).trans (hb3.mono (by rw [World.size_alloc]; have := Hb2.out.size; omega)))
                    clear hb3 Hb2 hA2
                    have hpbw : w.heap.size ≤ w2.heap.size := hw2s
                    generalize w2.heap.size = pb at *
                    have vA3 := keep hA3
                    have vB3 := keep hB3
                    obtain ⟨q0, p0, p1, p2, p3, p4, z0, z1, z2, z3, z4⟩ := hB3
                    obtain ⟨q1, a0, a1, a2, a3, a4, _, _, _, _, _⟩ := hA3
                    have hne : pa ≠ pb := by omega
                    have hne' : pb ≠ pa := by omega
                    go_wp2_with fail
                    have VA := keep (vA3.out.off (k' := 3) (s' := s2) (f' := f2) (b' := b1) (ao' := ao2) (n' := ss2.length) (cap' := cap2) hne)
                    have VB := keep (vB3.out.put (k' := 3) (s' := s2) (f' := f2) (b' := b1) (ao' := ao2) (n' := ss2.length) (cap' := cap2))
                    have HbW := keep (Hb3.out.grown (putV_grown w3 pb 3 s2 f2 b1 ao2 ss2.length cap2) Hb3.out.size (fun q e => by cases e; exact hpbw))
                    unfold putV at VA VB HbW
                    clear p0 p1 p2 p3 p4 z0 z1 z2 z3 z4 q0 q1 a0 a1 a2 a3 a4
                    have ce := keep (fun (w : World) (s s2 : ByteArray) (f f2 : Nat) (ao ao2 : Option Addr) (n n2 cap cap2 : Nat) => zzequal_of w 3 3 s s2 f f2 b1 b1 ao ao2 n n2 cap cap2 true (fun w' _ => equal_bool w' s s2 f f2 b1 ao ao2 n n2 cap cap2))
                    unfold val at ce
                    refine (ce.out _ _ _ _ _ _ _ _ _ _ _).mono ?_
                    rintro e w4 ⟨rfl, hb4⟩
                    obtain ⟨_, x0, x1, x2, x3, x4, _, _, _, _, _⟩ := VA.out.below hb4 VA.out.lt
                    obtain ⟨_, y0, y1, y2, y3, y4, _, _, _, _, _⟩ := VB.out.below hb4 VB.out.lt
                    have HbV := keep (HbW.out.trans (hb4.mono HbW.out.size))
                    go_wp2_with fail
                    refine (ce.out _ _ _ _ _ _ _ _ _ _ _).mono ?_
                    rintro e w5 ⟨rfl, hb5⟩
                    obtain ⟨_, x0, x1, x2, x3, x4, _, _, _, _, _⟩ := (VA.out.below hb4 VA.out.lt).below hb5 (VA.out.below hb4 VA.out.lt).lt
                    have HbU := keep (HbV.out.trans (hb5.mono HbV.out.size))
                    go_wp2_with fail
                    refine (ce.out _ _ _ _ _ _ _ _ _ _ _).mono ?_
                    rintro e w6 ⟨rfl, hb6⟩
                    have HbT := keep (HbU.out.trans (hb6.mono HbU.out.size))
                    go_wp2_with fail
                    go_ret
                    exact ⟨rfl, HbT.out⟩
                  · have k1' : (k == 1) = false := by rw [beq_eq_false_iff_ne]; exact k1
                    have k2' : (k == 2) = false := by rw [beq_eq_false_iff_ne]; exact k2
                    have k3' : (k == 3) = false := by rw [beq_eq_false_iff_ne]; exact k3
                    have vB := VAt.made w2 k s2 f2 b2 ao ss.length cap
                    have vA := hA2.out.same (w' := w2.alloc (.cells #[.int .u8 k, .string s2, .float .f64 f2, .bool b2, .slice ao ss.length cap] 28)) (by rw [World.size_alloc]; omega) (Below.heap_alloc _ _ _ hpa)
                    have HbW := keep (Hb2.out.alloc Hb2.out.size (.cells #[.int .u8 k, .string s2, .float .f64 f2, .bool b2, .slice ao ss.length cap] 28))
                    have hne : pa ≠ w2.heap.size := by omega
                    have ce := keep (fun (W : World) (hW : Below w.heap.size w W) (s s2 : ByteArray) (f f2 : Nat) (b b2 : Bool) => zzequal_of W k k s s2 f f2 b b2 ao ao ss.length ss.length cap cap true (fun w' hw' => equal_list w' k k1 k2 k3 s s2 f f2 b b2 ao ss cap ((Hv.out.below hW).below hw') g3))
                    unfold val at ce
                    have VA := keep vA
                    have VB := keep vB
                    obtain ⟨_, x0, x1, x2, x3, x4, _, _, _, _, _⟩ := vA
                    go_wp2_with fail
                    refine (ce.out _ HbW.out _ _ _ _ _ _).mono ?_
                    rintro e w4 ⟨rfl, hb4⟩
                    obtain ⟨_, x0, x1, x2, x3, x4, _, _, _, _, _⟩ := VA.out.below hb4 VA.out.lt
                    obtain ⟨_, y0, y1, y2, y3, y4, _, _, _, _, _⟩ := VB.out.below hb4 VB.out.lt
                    have HbV := keep (HbW.out.trans (hb4.mono HbW.out.size))
                    go_wp2_with fail
                    refine (ce.out _ HbV.out _ _ _ _ _ _).mono ?_
                    rintro e w5 ⟨rfl, hb5⟩
                    obtain ⟨_, x0, x1, x2, x3, x4, _, _, _, _, _⟩ := (VA.out.below hb4 VA.out.lt).below hb5 (VA.out.below hb4 VA.out.lt).lt
                    have HbU := keep (HbV.out.trans (hb5.mono HbV.out.size))
                    go_wp2_with fail
                    refine (ce.out _ HbU.out _ _ _ _ _ _).mono ?_
                    rintro e w6 ⟨rfl, hb6⟩
                    have HbT := keep (HbU.out.trans (hb6.mono HbU.out.size))
                    go_wp2_with fail
                    go_ret
                    exact ⟨rfl, HbT.out⟩
            · go_wp2_with fail
              all_goals (go_ret; exact ⟨rfl, Below.refl _ _⟩)
          · go_wp2_with fail
            all_goals (go_ret; exact ⟨rfl, Below.refl _ _⟩)
        · go_wp2_with fail
          all_goals (go_ret; exact ⟨rfl, Below.refl _ _⟩)
      · go_wp2_with fail
        all_goals (go_ret; exact ⟨rfl, Below.refl _ _⟩)
    · go_wp2_with fail
      all_goals (go_ret; exact ⟨rfl, Below.refl _ _⟩)
end Go.Proofs.Qxb6600637a
