/-
  The law FnSplitPiecesRebuildText: its walk.
-/
import Derived.Test.Qxb6000411aNewRs
namespace Go.Proofs.Qxb6000411a
open Go.RowKit Go.Maps Pl
set_option linter.unusedVariables false

/-- What the walks are told of a slice of slices of strings. -/
structure SSV (w : World) (ao : Option Addr) (xs : List In) : Prop where
  sc : SSC w ao xs
  nil : ao = none → xs = []
  nil2 : ∀ x, x ∈ xs → x.1 = none → x.2.2 = [] ∧ x.2.1 = 0

theorem lens_of_map {xs ys : List In} (h : ys.map (·.2.2) = xs.map (·.2.2)) : ys.length = xs.length := by
  have := congrArg List.length h
  simpa using this
theorem mem_of_map {xs ys : List In} (h : ys.map (·.2.2) = xs.map (·.2.2)) {P : List ByteArray → Prop} (hp : ∀ i (h : i < xs.length), P xs[i].2.2) : ∀ y, y ∈ ys → P y.2.2 := by
  intro y hy
  have : y.2.2 ∈ ys.map (·.2.2) := List.mem_map_of_mem hy
  rw [h] at this
  obtain ⟨x, hx, hxe⟩ := List.mem_map.1 this
  obtain ⟨i, hi, rfl⟩ := List.getElem_of_mem hx
  rw [← hxe]
  exact hp i hi

theorem bounds_of {xs ys : List In} (h : ys.map (·.2.2) = xs.map (·.2.2)) (hbd : ∀ i (h : i < xs.length), 16 * xs[i].2.2.length + szs xs[i].2.2 ≤ 1048576) : ∀ y, y ∈ ys → y.2.2.length ≤ 65536 ∧ szs y.2.2 ≤ 1048576 :=
  mem_of_map h (P := fun s => s.length ≤ 65536 ∧ szs s ≤ 1048576) fun i hi => by have := hbd i hi; omega
/-- The two calls that make the replace-strings. -/
theorem made_any {w : World} {ao : Option Addr} {cap : Nat} {xs : List In} (hv : SSV w ao xs) (hn : xs.length ≤ 4096) (hbd : ∀ i (h : i < xs.length), 16 * xs[i].2.2.length + szs xs[i].2.2 ≤ 1048576) :
    Calls Try.prog 30 #[.slice ao xs.length cap] w fun e w1 => ∃ ao1 cap1 ys, e = .returned (.slice ao1 ys.length cap1) ∧ ys.map (·.2.2) = xs.map (·.2.2) ∧ SetsAt w1 ao1 ys ∧ Below w.heap.size w w1 ∧ ys.length ≤ 4096 ∧
      Calls Try.prog 32 #[.slice ao1 ys.length cap1] w1 fun e w2 => ∃ rb c es, e = .returned (.slice (some ⟨rb, 0, none⟩) es.length c) ∧ es.map (·.2.2) = ys.map (fun y => y.2.2.map bsl) ∧ RsIs w2 w1.heap.size w2.heap.size rb c es ∧ Below w.heap.size w w2 ∧ SetsAt w2 ao1 ys ∧ es.length ≤ 4096 := by
  refine (copySets_any w ao cap xs hv.sc hv.nil hv.nil2 hn (fun x hx => (bounds_of rfl hbd x hx).1)).mono ?_
  rintro e w1 ⟨ao1, cap1, ys, rfl, hmap, hsets, hb1⟩
  have hyl := lens_of_map hmap
  refine ⟨ao1, cap1, ys, rfl, hmap, hsets, hb1, by omega, (newRs_any w1 ao1 cap1 ys hsets (by omega) (bounds_of hmap hbd)).mono ?_⟩
  rintro e w2 ⟨rb, cp, es, rfl, hem, hrs, hb2⟩
  refine ⟨rb, cp, es, rfl, hem, hrs, hb1.trans (hb2.mono hb1.size), ?_, ?_⟩
  · rcases hsets with h | ⟨zb, h1, h2, h3⟩
    · exact .inl h
    · refine .inr ⟨zb, h1, Nat.lt_of_lt_of_le h2 hb2.size, fun i hi => ⟨?_, (h3 i hi).2.below hb2 (Nat.le_refl _)⟩⟩
      rw [hb2.cell (p := ⟨zb, i, none⟩) h2]
      exact (h3 i hi).1
  · have := congrArg List.length hem
    simp at this
    omega

theorem flip2 (k : Nat) : ((k + 1) % 2 == 0) = !(k % 2 == 0) := by
  rcases Nat.mod_two_eq_zero_or_one k with h | h
  · have : (k + 1) % 2 = 1 := by omega
    simp [h, this]
  · have : (k + 1) % 2 = 0 := by omega
    simp [h, this]
theorem tmod2 (n : Nat) {b : Int} (h : ((n % 2 : Nat) : Int) = b) : (n : Int).tmod 2 = b := by
  rw [Int.tmod_eq_emod_of_nonneg (by omega)]
  omega
theorem hd8_is : hdG (tlG (bodyOf Try.f8)) (bodyOf Try.f8) = bodyOf Try.f8 := by kernel_rfl

set_option maxRecDepth 100000 in
set_option maxHeartbeats 4000000 in
theorem head8 (c : Code) (w : World) (ao : Option Addr) (cap : Nat) (xs : List In) (text : ByteArray) (hv : SSV w ao xs) (htx : text.size ≤ maxLen) (R : Ending → World → Prop) (hR : R (.returned (.bool true)) w)
    (a : Act) (hF : Fr 86 a) (s0 : sl a 0 = .slice ao xs.length cap) (s1 : sl a 1 = .string text)
    (hK : ∀ a' w' ao' cap' ys, Fr 86 a' → Below w.heap.size w w' → sl a' 0 = .slice ao' ys.length cap' → sl a' 1 = .string text → text.size ≤ 65536 →
      (Calls Try.prog 32 #[.slice ao' ys.length cap'] w' fun e w2 => ∃ rb c es, e = .returned (.slice (some ⟨rb, 0, none⟩) es.length c) ∧ es.map (·.2.2) = ys.map (fun y => y.2.2.map bsl) ∧ RsIs w2 w'.heap.size w2.heap.size rb c es ∧ Below w.heap.size w w2 ∧ SetsAt w2 ao' ys ∧ es.length ≤ 4096) →
      c.wp Try.prog (bodyPost Try.prog Try.f8 R) a' w') :
    Code.wp Try.prog (hdG c (bodyOf Try.f8)) (bodyPost Try.prog Try.f8 R) a w := by
  have hl1 := hv.sc.len
  have c28 := keep (zzBytes28 w ao cap xs text hv.sc htx)
  have c29 := keep (bytesOfSets_any w ao cap xs hv.sc)
  have cm := keep (fun hn hbd => made_any (cap := cap) hv hn hbd)
  have HK := keep hK
  unfold maxLen at hl1 htx
  have e := fr86 hF
  simp only [s0, s1] at e
  rw [e]
  clear e s0 s1 hv hK
  unfold hdG
  conv => arg 2; arg 1; whnf
  conv => arg 2; arg 2; arg 1; whnf
  conv => arg 2; arg 2; arg 2; arg 1; whnf
  conv => arg 2; arg 2; arg 2; arg 2; arg 1; whnf
  conv => arg 2; arg 2; arg 2; arg 2; arg 2; arg 1; whnf
  go_wp2_with fail
  refine c28.out.mono ?_
  rintro e w' ⟨b, rfl, hw⟩
  rw [hw]
  clear hw w'
  cases b with
  | false =>
    go_wp2_with fail
    all_goals exact hR
  | true =>
    by_cases htl : text.size ≤ 1048576
    · have htl' : decide ((1048576 : Int) < (text.size : Int)) = false := by rw [decide_eq_false_iff_not]; omega
      go_wp2_with fail
      refine c29.out.mono ?_
      rintro e w' ⟨r, rfl, hw, hr1, hr2, hr3⟩
      rw [hw]
      clear hw w'
      have Hr3 := keep hr3
      clear hr3
      by_cases hsum : r + (text.size : Int) ≤ 1048576
      · by_cases hn1 : xs.length ≤ 4096
        · have hn1' : decide ((4096 : Int) < (xs.length : Int)) = false := by rw [decide_eq_false_iff_not]; omega
          by_cases hn2 : text.size ≤ 65536
          · have hn2' : decide ((65536 : Int) < (text.size : Int)) = false := by rw [decide_eq_false_iff_not]; omega
            have c30 := keep (cm.out hn1 (Hr3.out (by omega)))
            clear cm Hr3
            go_wp2_with fail
            refine c30.out.mono ?_
            rintro e w1 ⟨ao1, cap1, ys, rfl, hmap, hsets, hb1, hyl, hcs⟩
            clear c30 hmap hsets
            go_wp2_with fail
            exact HK.out _ w1 ao1 cap1 ys ⟨rfl, rfl⟩ hb1 rfl rfl hn2 hcs
          · go_wp2_with fail
            all_goals exact hR
        · go_wp2_with fail
          all_goals exact hR
      · go_wp2_with fail
        all_goals exact hR
    · go_wp2_with fail
      all_goals exact hR

set_option maxRecDepth 100000 in
set_option maxHeartbeats 4000000 in
theorem tail8 (a : Act) (w0 w : World) (R : Ending → World → Prop) (hF : Fr 86 a) (ao : Option Addr) (cap : Nat) (ys : List In) (text : ByteArray) (htl : text.size ≤ 65536)
    (hb : Below w0.heap.size w0 w) (s0 : sl a 0 = .slice ao ys.length cap) (s1 : sl a 1 = .string text)
    (c32 : Calls Try.prog 32 #[.slice ao ys.length cap] w fun e w2 => ∃ rb c es, e = .returned (.slice (some ⟨rb, 0, none⟩) es.length c) ∧ es.map (·.2.2) = ys.map (fun y => y.2.2.map bsl) ∧ RsIs w2 w.heap.size w2.heap.size rb c es ∧ Below w0.heap.size w0 w2 ∧ SetsAt w2 ao ys ∧ es.length ≤ 4096)
    (hR : ∀ w', Below w0.heap.size w0 w' → R (.returned (.bool true)) w') :
    Code.wp Try.prog (tlG (bodyOf Try.f8)) (bodyPost Try.prog Try.f8 R) a w := by
  have C32 := keep c32
  have HR := keep hR
  have e := fr86 hF
  simp only [s0, s1] at e
  rw [e]
  clear e s0 s1 hR c32 hb
  conv => arg 2; whnf
  go_wp2_with fail
  refine C32.out.mono ?_
  rintro e w2 ⟨rb, cp, es, rfl, hem, hrs, hb2, hsets, hel⟩
  have c31 := keep (zzsplit_any text w2 _ _ rb cp es hrs (Nat.le_refl _) (by omega) (by omega))
  have Hb2 := keep hb2
  clear hem hrs hb2 hsets C32
  go_wp2_with fail
  refine c31.out.mono ?_
  rintro e w3 ⟨ps, g, c, rfl, hrow, hrest, hb3⟩
  generalize Lx (allOf es) text = L at hrest
  have hodd := hrest.odd
  have Hrest := keep hrest
  have hpm := hrow.le
  rw [strV_len] at hpm
  have Hrow := keep hrow
  obtain ⟨hpm1, hpm2⟩ := hpm
  unfold maxLen at hpm2
  simp only [if_true] at hodd
  have hmod : (ps.length : Int).tmod 2 = 1 := tmod2 _ (by omega)
  have Hb3 := keep (Hb2.out.trans (hb3.mono Hb2.out.size))
  clear hrest hrow hb3 Hb2 c31
  go_wp2_with fail
  go_loopg [6, 7] ps.length (fun m o i wr => wr = w3 ∧ ∃ (k off : Nat), k ≤ ps.length ∧ ps.length - k ≤ m ∧ i = .int .i64 k ∧ o = .int .i64 off ∧ Hid (Rest L text (k % 2 == 0) off (ps.drop k)))
  case atStart => exact ⟨rfl, 0, 0, Nat.zero_le _, Nat.le_refl _, rfl, rfl, Hrest.out⟩
  case round =>
    rename_i J K hJ hK
    have HJ := keep hJ
    clear hJ
    obtain ⟨rfl, k, off, hk, hkm, rfl, rfl, hre⟩ := hrel
    by_cases hlt : k < ps.length
    · have hlt' : (k : Int) < (ps.length : Int) := by omega
      have hck : wr.cell? ⟨g, k, none⟩ = some (.string ps[k]) := Hrow.out.cellD (by simp [strV, hlt])
      have hr := hre.out
      rw [List.drop_eq_getElem_cons hlt] at hr
      obtain ⟨r1, r2, r3, r4, r5⟩ := hr.cons
      have hps := ex_size text off (off + ps[k].size) r1
      generalize ps[k] = p at *
      have R3 := keep r3
      have R4 := keep r4
      have R2 := keep r2.symm
      have hd0 : decide ((text.size : Int) - (off : Int) < (p.size : Int)) = false := by rw [decide_eq_false_iff_not]; omega
      have hse : ((text.extract off (off + p.size)).toList == p.toList) = true := by rw [R2.out]; exact beq_self_eq_true _
      clear hr r2 r3 r4 r5 hre
      rcases Nat.mod_two_eq_zero_or_one k with hk2 | hk2
      · have hmk : (k : Int).tmod 2 = 0 := tmod2 _ (by omega)
        go_wp2_with fail
        have hJ := HJ.out
        go_roundg (ps.length - (k + 1))
        case measure => omega
        case rel => exact ⟨rfl, k + 1, off + p.size, hlt, Nat.le_refl _, by go_num, by go_num, by rw [flip2]; exact R3.out⟩
      · have hmk : (k : Int).tmod 2 = 1 := tmod2 _ (by omega)
        have hp0 : ((p.size : Int) == 0) = false := by
          have := (R4.out (by simp [hk2])).1
          rw [beq_eq_false_iff_ne]; omega
        go_wp2_with fail
        have hJ := HJ.out
        go_roundg (ps.length - (k + 1))
        case measure => omega
        case rel => exact ⟨rfl, k + 1, off + p.size, hlt, Nat.le_refl _, by go_num, by go_num, by rw [flip2]; exact R3.out⟩
    · obtain rfl : k = ps.length := by omega
      have hoff := hre.out
      rw [List.drop_of_length_le (Nat.le_refl _)] at hoff
      obtain rfl := hoff.nil
      go_wp2_with fail
      exact HR.out _ Hb3.out

theorem law8 (w : World) (ao : Option Addr) (cap : Nat) (xs : List In) (text : ByteArray) (hv : SSV w ao xs) (htx : text.size ≤ maxLen) :
    Calls Try.prog 8 #[.slice ao xs.length cap, .string text] w fun e w' => e = .returned (.bool true) ∧ Below w.heap.size w w' := by
  refine calls_of_wp Try.func8 (c := bodyOf Try.f8) (by kernel_rfl) ?_
  rw [← hd8_is]
  refine head8 _ w ao cap xs text hv htx _ ⟨rfl, Below.refl _ _⟩ _ ⟨by simp [Try.ntmps8], rfl⟩ (by simp [sl, Array.getD]) (by simp [sl, Array.getD]) ?_
  intro a' w' ao' cap' ys hF' hb' s0 s1 b1 c32
  exact tail8 a' w w' _ hF' ao' cap' ys text b1 hb' s0 s1 c32 (fun w2 h2 => ⟨rfl, h2⟩)
end Go.Proofs.Qxb6000411a
