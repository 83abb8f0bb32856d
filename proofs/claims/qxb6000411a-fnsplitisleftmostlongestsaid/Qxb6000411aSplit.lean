/-
  'split' by its contract.
-/
import Derived.Test.Qxb6000411aCut
import Derived.Test.Qxb6000411aWiden
import Derived.Test.Qxb6000411aFrames2
import Derived.Deep.RegionLawGrows
namespace Go.Proofs.Qxb6000411a
open Go.RowKit Go.Maps Pl
set_option linter.unusedVariables false

theorem owns_same {w w' : World} {B : Nat} {e : TypeId} {v : Value} {n : Nat} {xs : List Value} (h : w.ownsRow B e 1 v n xs) (hh : ∀ k, k < w.heap.size → w'.heap[k]? = w.heap[k]?) : w'.ownsRow B e 1 v n xs := by
  obtain ⟨h1, h2⟩ := h
  refine ⟨h1, ?_⟩
  rcases h2 with h2 | ⟨g, cap, cur, e1, e2, e3, e4⟩
  · exact .inl h2
  · exact .inr ⟨g, cap, cur, e1, e2, by rw [hh g (Array.getElem?_eq_some_iff.1 e3).1]; exact e3, e4⟩
theorem owns_lo {w : World} {B : Nat} {e : TypeId} {v : Value} {n : Nat} {xs : List Value} (h : w.ownsRow B e 1 v n xs) (k : Nat) (hk : v.ownBlock = some k) : B ≤ k := by
  rcases h.2 with ⟨rfl, _⟩ | ⟨g, cap, cur, rfl, e2, _⟩
  · cases hk
  · cases hk; exact e2

/-- 'append(s, xs...)' onto a row of the call's own, as one step of a region that draws. -/
theorem step_appO {P : Program} {ops : Array Oper} {o : Oper} {a : Act} {w : World} {K : Act → World → Prop} {Q : Exit → Act → World → Prop} {E : Prop}
    (hg : o.guard = none) (s x : Operand) (t : TypeId) (hop : o.op = Op.call { callee := Callee.builtin Builtin.append, args := #[s, x], argTypes := #[t, t] })
    (e : TypeId) (z : Value) (bytes : Nat) (ht : P.underlying t = some (.slice e)) (hi : (P.info? e).map (fun i => (i.zero, i.size, i.bytes)) = some (some z, 1, bytes)) (hz : z.cells.size = 1)
    (base : Nat) (v : Value) (n : Nat) (xs : List Value) (hs : a.eval s = v) (hown : w.ownsRow base e 1 v n xs)
    (ad m c : Nat) (ys : List Value) (hx : a.eval x = .slice (some ⟨ad, 0, none⟩) m c) (hm : ys.length = m) (hm0 : 0 < m) (hy : ∀ j u, ys[j]? = some u → w.cell? ⟨ad, j, none⟩ = some u) (h1 : ∀ u ∈ ys, u.oneCell' = true)
    (hbytes : (n + m) * bytes ≤ 140737488355328) (h63 : n + m ≤ maxLen) (hbase : base ≤ w.heap.size)
    (hK : ∀ g' cap' w', w'.ownsRow base e 1 (.slice (some ⟨g', 0, none⟩) (n + m) cap') (n + m) (xs ++ ys) → w.grownBy w' v.ownBlock → K (a.put o.dst (.slice (some ⟨g', 0, none⟩) (n + m) cap')) w') :
    if Region.wanted o (yielded ops a.tmps) = true then Oper.wp P o a w K Q else E := by
  have hw : Region.wanted o (yielded ops a.tmps) = true := by simp [Region.wanted, hg]
  rw [if_pos hw]
  obtain ⟨i, hi1, hi2, hi3, hi4⟩ := info_parts hi
  obtain ⟨v', w', hrun, r1, r2, _⟩ := run_append_own (P := P) w base t o.type e i z 1 bytes ht hi1 hi2 hi3 hi4 hz (by decide) v n xs hown ⟨ad, 0, none⟩ m c ys (by simpa using hm) (by intro j u hj; rw [Addr.add_lit]; simpa using hy j u hj) h1 h63 hbytes hbase
  unfold Oper.wp
  simp [execOp, hop, resolve, invoke, builtin, hs, hx, hrun, Result.andThen]
  rcases r1.2 with ⟨_, h0⟩ | ⟨g, cap, cur, rfl, _⟩
  · omega
  · exact hK _ _ _ r1 r2

/-- The same where no order is drawn. -/
theorem wpList_appO {P : Program} (w : World) {ops : Array Oper} {rest : List Oper} {o : Oper} {a : Act} {Q : Exit → Act → World → Prop}
    (hg : o.guard = none) (s x : Operand) (t : TypeId) (hop : o.op = Op.call { callee := Callee.builtin Builtin.append, args := #[s, x], argTypes := #[t, t] })
    (e : TypeId) (z : Value) (bytes : Nat) (ht : P.underlying t = some (.slice e)) (hi : (P.info? e).map (fun i => (i.zero, i.size, i.bytes)) = some (some z, 1, bytes)) (hz : z.cells.size = 1)
    (base : Nat) (v : Value) (n : Nat) (xs : List Value) (hs : a.eval s = v) (hown : w.ownsRow base e 1 v n xs)
    (ad m c : Nat) (ys : List Value) (hx : a.eval x = .slice (some ⟨ad, 0, none⟩) m c) (hm : ys.length = m) (hm0 : 0 < m) (hy : ∀ j u, ys[j]? = some u → w.cell? ⟨ad, j, none⟩ = some u) (h1 : ∀ u ∈ ys, u.oneCell' = true)
    (hbytes : (n + m) * bytes ≤ 140737488355328) (h63 : n + m ≤ maxLen) (hbase : base ≤ w.heap.size)
    (hK : ∀ g' cap' w', w'.ownsRow base e 1 (.slice (some ⟨g', 0, none⟩) (n + m) cap') (n + m) (xs ++ ys) → w.grownBy w' v.ownBlock → wpList P ops Q rest (a.put o.dst (.slice (some ⟨g', 0, none⟩) (n + m) cap')) w') :
    wpList P ops Q (o :: rest) a w := by
  obtain ⟨i, hi1, hi2, hi3, hi4⟩ := info_parts hi
  refine wpList_append_own_at w hg s x t hop base e i z 1 bytes ht hi1 hi2 hi3 hi4 hz (by decide) v n xs hs hown ⟨ad, 0, none⟩ m c ys hx (by simpa using hm) (by intro j u hj; rw [Addr.add_lit]; simpa using hy j u hj) h1 h63 hbytes hbase ?_
  intro v' w' r1 r2 _ _
  rcases r1.2 with ⟨_, h0⟩ | ⟨g, cap, cur, rfl, _⟩
  · omega
  · exact hK _ _ _ r1 r2
theorem owns_row {w : World} {B : Nat} {e : TypeId} {g n cap : Nat} {xs : List Value} (h : w.ownsRow B e 1 (.slice (some ⟨g, 0, none⟩) n cap) n xs) : Row w e g cap xs ∧ B ≤ g := by
  obtain ⟨h1, h2⟩ := h
  rcases h2 with ⟨h2, _⟩ | ⟨g', cap', cur, e1, e2, e3, e4, e5, e6, e7⟩
  · cases h2
  · cases e1
    exact ⟨⟨cur, e3, by rw [h1]; simpa using e4, e5, by simpa using e6, by rw [h1]; exact e7⟩, e2⟩

/-- The sets of replace-strings in memory: (the struct's block, its set's block, its strings). -/
def RsIs (w : World) (lo hi rb cap : Nat) (es : List (Nat × Nat × List (List UInt8))) : Prop :=
  Row w 70 rb cap (es.map fun e => .pointer (some ⟨e.1, 0, none⟩)) ∧ lo ≤ rb ∧ rb < hi ∧
    ∀ e, e ∈ es → lo ≤ e.1 ∧ e.1 < hi ∧ w.cell? ⟨e.1, 1, none⟩ = some (.pointer (some ⟨e.2.1, 0, none⟩)) ∧ SetIs w lo hi e.2.1 e.2.2
theorem RsIs.same {w w' : World} {lo hi rb cap : Nat} {es : List (Nat × Nat × List (List UInt8))} (h : RsIs w lo hi rb cap es) (hh : ∀ k, lo ≤ k → k < hi → w'.heap[k]? = w.heap[k]?) : RsIs w' lo hi rb cap es := by
  obtain ⟨h1, h2, h3, h4⟩ := h
  refine ⟨h1.same (hh _ h2 h3), h2, h3, fun e he => ?_⟩
  obtain ⟨k1, k2, k3, k4⟩ := h4 e he
  exact ⟨k1, k2, by rw [World.cell?_of_block (hh _ k1 k2)]; exact k3, k4.same hh⟩

def allOf (es : List (Nat × Nat × List (List UInt8))) : List (List UInt8) := es.flatMap (·.2.2)
theorem allOf_snoc (es : List (Nat × Nat × List (List UInt8))) (k : Nat) (h : k < es.length) : allOf (es.take (k + 1)) = allOf (es.take k) ++ es[k].2.2 := by
  unfold allOf
  rw [List.take_succ_eq_append_getElem h, List.flatMap_append]
  simp

set_option maxRecDepth 100000 in
set_option maxHeartbeats 4000000 in
theorem split_any (text : ByteArray) (w : World) (lo hi rb cap : Nat) (es : List (Nat × Nat × List (List UInt8))) (h : RsIs w lo hi rb cap es) (hhi : hi ≤ w.heap.size) (hs : text.size ≤ 1048576) (hn : es.length ≤ 1048576) :
    Calls Try.prog 49 #[.slice (some ⟨rb, 0, none⟩) es.length cap, .string text] w fun e w' => ∃ ps g c, e = .returned (.slice (some ⟨g, 0, none⟩) ps.length c) ∧ Row w' 9 g c (strV ps) ∧ Rest (Lx (allOf es) text) text true 0 ps ∧ Below w.heap.size w w' := by
  have H := keep h
  clear h
  have hmk := run_make_row' (P := Try.prog) 46 21 (.int .i32 0) 4 Try.underlying46 info21 rfl .i64 .i64 text.size (by omega) (by omega)
  go_enter Try.func49, Try.ntmps49
  by_cases h0 : es = []
  · subst h0
    go_wp2_with fail
    go_ret
    refine ⟨[text], w.heap.size, 1, rfl, Row.made w 9 #[.string text] (by simp [maxLen]), ⟨text.size, Nat.zero_le _, Nat.le_refl _, fun q _ _ => rfl, by rw [ByteArray.extract_zero_size], rfl⟩, (Below.refl _ _).alloc (Nat.le_refl _) _⟩
  · have hpos : 0 < es.length := List.length_pos_iff.2 h0
    clear h0
    have hne : ((es.length : Int) == 0) = false := by rw [beq_eq_false_iff_ne]; omega
    go_wp2_with fail
    have hms : (madeCells #[Value.int .i32 0] text.size).size = text.size := size_madeCells _ _
    have hrw := Row.made w 21 (madeCells #[.int .i32 0] text.size) (by rw [hms]; unfold maxLen; omega)
    rw [toList_madeCells_one, hms] at hrw
    have hX : Hid (IRow (w.alloc (.cells (madeCells #[.int .i32 0] text.size) 21)) w.heap.size text.size text.size (fun _ => 0)) := by
      show IRow _ _ _ _ _
      unfold IRow
      rw [show ((List.range text.size).map fun _ => Value.int .i32 0) = List.replicate text.size (.int .i32 0) from by rw [List.map_const', List.length_range]]
      exact hrw
    clear hrw hms hmk
    have hbw : Below w.heap.size w (w.alloc (.cells (madeCells #[.int .i32 0] text.size) 21)) := (Below.refl _ _).alloc (Nat.le_refl _) _
    go_loopg [22] es.length (fun m i wr => ∃ k : Nat, k ≤ es.length ∧ es.length - k ≤ m ∧ i = .int .i64 k ∧ Below w.heap.size w wr ∧ IRow wr w.heap.size text.size text.size (fun j => (lg (allOf (es.take k)) ((bsl text).drop j) : Int)))
    case atStart => exact ⟨0, Nat.zero_le _, Nat.le_refl _, rfl, hbw, hX.out⟩
    case round =>
      rename_i J K hJ hK
      have HJ := keep hJ
      have HK := keep hK
      clear hJ hK
      clear hbw hX
      obtain ⟨k, hk, hkm, rfl, hb, hrow⟩ := hrel
      by_cases hlt : k < es.length
      · have hlt' : (k : Int) < (es.length : Int) := by omega
        have hh : ∀ q, lo ≤ q → q < hi → wr.heap[q]? = w.heap[q]? := fun q h1 h2 => hb.block q (by omega)
        obtain ⟨hr, hr1, hr2, hall⟩ := H.out.same hh
        obtain ⟨e1, e2, e3, e4⟩ := hall _ (List.getElem_mem hlt)
        have hc1 : wr.cell? ⟨rb, k, none⟩ = some (.pointer (some ⟨es[k].1, 0, none⟩)) := hr.cellD (by simp [hlt])
        have cw := keep (widen_any text wr lo hi es[k].2.1 es[k].2.2 e4 (by have := hb.size; omega) hs w.heap.size text.size (.inr hhi) hrow (fun j => by have := lg_le (allOf (es.take k)) ((bsl text).drop j); rw [List.length_drop, bsl_len] at this; omega))
        have hall := keep (allOf_snoc es k hlt)
        have Hb := keep hb
        clear hr hh e4 hrow hb
        generalize es[k] = E at *
        obtain ⟨p1, sb, st⟩ := E
        simp only at *
        go_wp2_with fail
        refine cw.out.mono ?_
        rintro e w' ⟨rfl, hrow', hg'⟩
        have Hrow' := keep hrow'
        clear hrow'
        have hJ := HJ.out
        have hK := HK.out
        go_wp2_with fail
        go_roundg (es.length - (k + 1))
        case measure => omega
        case rel =>
          refine ⟨k + 1, hlt, Nat.le_refl _, by go_num, Hb.out.grown hg' Hb.out.size (fun q e => by cases e; exact Nat.le_refl _), Hrow'.out.congr fun j hj => ?_⟩
          rw [hall.out, lg_append]
          omega
      · obtain rfl : k = es.length := by omega
        rw [List.take_length] at hrow
        have Hrow := keep hrow
        have Hb := keep hb
        clear hrow hb
        obtain ⟨w2, hw2⟩ : ∃ w2, w2 = wr := ⟨_, rfl⟩
        subst hw2
        have hBs := Hb.out.size
        have hlb := Row.lt Hrow.out
        go_wp2_with fail
        go_loopg [8, 9, 10] text.size (fun m pv sv iv w3 => ∃ (ps : List ByteArray) (st i : Nat), st ≤ i ∧ i ≤ text.size ∧ text.size - i ≤ m ∧ sv = .int .i64 st ∧ iv = .int .i64 i ∧ Hid (∀ q, st ≤ q → q < i → Lx (allOf es) text q = 0) ∧ Hid (w3.ownsRow w2.heap.size 9 1 pv ps.length (strV ps)) ∧ ps.length ≤ 2 * st ∧ Below w2.heap.size w2 w3 ∧ Hid (∀ r, Rest (Lx (allOf es) text) text true st r → Rest (Lx (allOf es) text) text true 0 (ps ++ r)))
        case atStart => exact ⟨[], 0, 0, Nat.le_refl _, Nat.zero_le _, Nat.le_refl _, rfl, rfl, (fun q _ h => by omega), World.ownsRow_nil _ _ _ _, Nat.zero_le _, Below.refl _ _, fun r h => h⟩
        case round =>
          rename_i J2 K2 hJ2 hK2
          have HJ2 := keep hJ2
          have HK2 := keep hK2
          clear hJ2 hK2
          obtain ⟨ps, st, i, hsi, hi, him, rfl, rfl, hz, hown, hpl, hb3, hre⟩ := hrel
          have HB3 := keep hb3
          have hsz3 := hb3.size
          clear hb3
          by_cases hlt : i < text.size
          · have hlt' : (i : Int) < (text.size : Int) := by omega
            have hcl := IRow.at (Row.same Hrow.out (HB3.out.block _ hlb)) hlt
            have hLx : lg (allOf es) ((bsl text).drop i) = Lx (allOf es) text i := rfl
            rw [hLx] at hcl
            have hLle := Lx_le (allOf es) text i
            clear hLx
            generalize hn : Lx (allOf es) text i = n at *
            have Hn := keep hn
            clear hn
            by_cases hn0 : n = 0
            · subst hn0
              have hK2 := HK2.out
              go_wp2_with fail
              have hJ2 := HJ2.out
              go_roundg (text.size - (i + 1))
              case measure => omega
              case rel =>
                refine ⟨ps, st, i + 1, by omega, hlt, Nat.le_refl _, rfl, by go_num, ?_, hown, hpl, HB3.out, hre⟩
                intro q h1 h2
                rcases Nat.lt_or_ge q i with h | h
                · exact hz.out q h1 h
                · obtain rfl : q = i := by omega
                  exact Hn.out
            · have hne2 : ((n : Int) == 0) = false := by rw [beq_eq_false_iff_ne]; omega
              have i1 : (0 : Int) ≤ (st : Int) := by omega
              have i2 : (st : Int) ≤ (i : Int) := by omega
              obtain ⟨m, hm⟩ : ∃ m, m = i + n := ⟨_, rfl⟩
              have i3 : (i : Int) ≤ (m : Int) := by omega
              have i4 : (m : Int) ≤ (text.size : Int) := by omega
              have i5 : (0 : Int) ≤ (m : Int) := by omega
              have hwr : IntKind.i64.wrap ((i : Int) + (n : Int)) = (m : Int) := by rw [IntKind.wrap_i64]; omega
              have Hm := keep hm
              clear hm
              go_wp2_with fail
              go_region_law (refine step_appO rfl (.tmp 47) (.tmp 58) 22 rfl 9 (.string ByteArray.empty) 16 Try.underlying22 info9 rfl w2.heap.size u8 ps.length (strV ps) rfl (owns_same hown.out fun k hk => Below.heap_alloc _ _ _ hk) wr.heap.size 2 2 [.string (text.extract st i), .string (text.extract i m)] rfl rfl (by decide) (by intro k u hk; match k, hk with | 0, hk => simp at hk; subst hk; simp | 1, hk => simp at hk; subst hk; simp) (by intro u hu; simp at hu; rcases hu with hu | hu <;> subst hu <;> rfl) (by omega) (by unfold maxLen; omega) (by show _ ≤ (wr.alloc _).heap.size; rw [World.size_alloc]; omega) ?_; intro g4 c4 w4 ho4 hg4; have Ho4 := keep ho4; clear ho4)
              have hK2 := HK2.out
              go_wp2_with fail
              have hJ2 := HJ2.out
              go_roundg (text.size - m)
              case measure => have := Hm.out; omega
              case rel =>
                have hsa : w2.heap.size ≤ (wr.alloc (Obj.cells #[Value.string (text.extract st i), Value.string (text.extract i m)] 9)).heap.size := by rw [World.size_alloc]; omega
                have hb4 : Below w2.heap.size w2 w4 := ((HB3.out.alloc hsz3 _).grown (grown_drew _ none) hsa (fun k e => by cases e)).grown hg4 hsa (fun k e => owns_lo hown.out k e)
                have hme := Hm.out
                refine ⟨ps ++ [text.extract st i, text.extract i m], m, m, Nat.le_refl _, by omega, Nat.le_refl _, rfl, rfl, (fun q h1 h2 => by omega), ?_, ?_, hb4, ?_⟩
                · have := Ho4.out
                  show World.ownsRow _ _ _ _ _ _ _
                  unfold strV at this ⊢
                  rw [List.map_append, List.length_append]
                  exact this
                · rw [List.length_append]
                  show _ + 2 ≤ _
                  omega
                · intro r hr
                  rw [List.append_assoc]
                  have hL := Hn.out
                  refine hre.out _ ⟨i, hsi, hi, hz.out, rfl, hlt, by omega, by omega, by rw [hL, hme], ?_⟩
                  rw [hL, ← hme]
                  exact hr
          · obtain rfl : i = text.size := by omega
            have hsi' : (st : Int) ≤ (text.size : Int) := by omega
            go_wp2_with (first
              | (at_builtin; refine wpList_appO _ rfl (.tmp 64) (.tmp 68) 22 rfl 9 (.string ByteArray.empty) 16 Try.underlying22 info9 rfl w2.heap.size u8 ps.length (strV ps) rfl (owns_same hown.out fun k hk => Below.heap_alloc _ _ _ hk) wr.heap.size 1 1 [.string (text.extract st text.size)] rfl rfl (by decide) (by intro k u hk; match k, hk with | 0, hk => simp at hk; subst hk; simp) (by intro u hu; simp at hu; subst hu; rfl) (by omega) (by unfold maxLen; omega) (by rw [World.size_alloc]; omega) ?_; intro g4 c4 w4 ho4 hg4; have Ho4 := keep ho4; clear ho4)
              | fail)
            go_ret
            have hb4 : Below w2.heap.size w2 w4 := (HB3.out.alloc hsz3 _).grown hg4 (by rw [World.size_alloc]; omega) (fun k e => owns_lo hown.out k e)
            refine ⟨ps ++ [text.extract st text.size], g4, c4, by simp, ?_, hre.out _ ⟨text.size, hsi, Nat.le_refl _, hz.out, rfl, rfl⟩, Hb.out.trans (hb4.mono hBs)⟩
            have := (owns_row Ho4.out).1
            unfold strV at this ⊢
            rw [List.map_append]
            exact this

theorem zzsplit_any (text : ByteArray) (w : World) (lo hi rb cap : Nat) (es : List (Nat × Nat × List (List UInt8))) (h : RsIs w lo hi rb cap es) (hhi : hi ≤ w.heap.size) (hs : text.size ≤ 1048576) (hn : es.length ≤ 1048576) :
    Calls Try.prog 31 #[.slice (some ⟨rb, 0, none⟩) es.length cap, .string text] w fun e w' => ∃ ps g c, e = .returned (.slice (some ⟨g, 0, none⟩) ps.length c) ∧ Row w' 9 g c (strV ps) ∧ Rest (Lx (allOf es) text) text true 0 ps ∧ Below w.heap.size w w' := by
  have hc := keep (split_any text w lo hi rb cap es h hhi hs hn)
  clear h
  go_enter Try.func31, Try.ntmps31
  go_wp2_with fail
  refine hc.out.mono ?_
  rintro e w' ⟨ps, g, c, rfl, h1, h2, h3⟩
  have H1 := keep (And.intro h1 h2)
  clear h1 h2
  go_wp2_with fail
  go_ret
  exact ⟨ps, g, c, rfl, H1.out.1, H1.out.2, h3⟩
end Go.Proofs.Qxb6000411a
