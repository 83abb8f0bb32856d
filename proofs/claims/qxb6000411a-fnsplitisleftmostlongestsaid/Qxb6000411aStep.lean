/-
  The automaton's struct in memory; 'child' and 'step' by their contracts.
-/
import Derived.Test.Qxb6000411aMem
import Derived.Test.Qxb6000411aPlain
import Derived.Deep.LoopGhost
namespace Go.Proofs.Qxb6000411a
open Go.RowKit Go.Maps Pl

/-! ### the struct -/
def Str (w : World) (sb : Nat) (rt : Nat → Int) (mb : Nat) (fv lv ev : Value) : Prop :=
  ∃ c : Array Value, w.heap[sb]? = some (.cells c 80 (0, 0)) ∧ c.size = 260 ∧ (∀ b, b < 256 → c[b]? = some (.int .i32 (rt b))) ∧
    c[256]? = some (.map (some mb)) ∧ c[257]? = some fv ∧ c[258]? = some lv ∧ c[259]? = some ev
section
variable {w w' : World} {sb mb : Nat} {rt : Nat → Int} {fv lv ev : Value}
theorem Str.lt (h : Str w sb rt mb fv lv ev) : sb < w.heap.size := by
  obtain ⟨c, h1, _⟩ := h
  exact (Array.getElem?_eq_some_iff.1 h1).1
theorem Str.same (h : Str w sb rt mb fv lv ev) (hh : w'.heap[sb]? = w.heap[sb]?) : Str w' sb rt mb fv lv ev := by
  obtain ⟨c, h1, r⟩ := h
  exact ⟨c, hh.trans h1, r⟩
theorem Str.kept {r : Option Nat} (h : Str w sb rt mb fv lv ev) (hg : w.grownBy w' r) (hne : some sb ≠ r) : Str w' sb rt mb fv lv ev := h.same (hg.block sb h.lt hne)
theorem Str.free (h : Str w sb rt mb fv lv ev) (i : Nat) : w.frozen? ⟨sb, i, none⟩ = false := by
  obtain ⟨c, h1, _⟩ := h
  simp [World.frozen?, h1]
theorem Str.cRoot (h : Str w sb rt mb fv lv ev) {b : Nat} (hb : b < 256) : w.cell? ⟨sb, b, none⟩ = some (.int .i32 (rt b)) := by
  obtain ⟨c, h1, h2, h3, h4, h5, h6, h7⟩ := h
  simpa [World.cell?, h1] using h3 b hb
theorem Str.cMap (h : Str w sb rt mb fv lv ev) : w.cell? ⟨sb, 256, none⟩ = some (.map (some mb)) := by
  obtain ⟨c, h1, h2, h3, h4, h5, h6, h7⟩ := h
  simpa [World.cell?, h1] using h4
theorem Str.cF (h : Str w sb rt mb fv lv ev) : w.cell? ⟨sb, 257, none⟩ = some fv := by
  obtain ⟨c, h1, h2, h3, h4, h5, h6, h7⟩ := h
  simpa [World.cell?, h1] using h5
theorem Str.cL (h : Str w sb rt mb fv lv ev) : w.cell? ⟨sb, 258, none⟩ = some lv := by
  obtain ⟨c, h1, h2, h3, h4, h5, h6, h7⟩ := h
  simpa [World.cell?, h1] using h6
theorem Str.cE (h : Str w sb rt mb fv lv ev) : w.cell? ⟨sb, 259, none⟩ = some ev := by
  obtain ⟨c, h1, h2, h3, h4, h5, h6, h7⟩ := h
  simpa [World.cell?, h1] using h7
theorem Str.setCell (h : Str w sb rt mb fv lv ev) (i : Nat) (x : Value) {rt' : Nat → Int} {fv' lv' ev' : Value}
    (hr : ∀ b, b < 256 → (if i = b then x else .int .i32 (rt b)) = .int .i32 (rt' b)) (hm : i ≠ 256) (hf : (if i = 257 then x else fv) = fv') (hl : (if i = 258 then x else lv) = lv') (he : (if i = 259 then x else ev) = ev') :
    Str (w.setCell ⟨sb, i, none⟩ x) sb rt' mb fv' lv' ev' := by
  obtain ⟨c, h1, h2, h3, h4, h5, h6, h7⟩ := h
  refine ⟨c.setIfInBounds i x, by simp [World.setCell, Array.getElem?_modify, h1], by simpa using h2, ?_, ?_, ?_, ?_, ?_⟩
  · intro b hb
    rw [Array.getElem?_setIfInBounds, ← hr b hb]
    by_cases e : i = b
    · simp only [e, if_true]; rw [if_pos (by omega)]
    · simp only [e, if_false]; exact h3 b hb
  · rw [Array.getElem?_setIfInBounds, if_neg hm]; exact h4
  · rw [Array.getElem?_setIfInBounds, ← hf]
    by_cases e : i = 257
    · simp only [e, if_true]; rw [if_pos (by omega)]
    · simp only [e, if_false]; exact h5
  · rw [Array.getElem?_setIfInBounds, ← hl]
    by_cases e : i = 258
    · simp only [e, if_true]; rw [if_pos (by omega)]
    · simp only [e, if_false]; exact h6
  · rw [Array.getElem?_setIfInBounds, ← he]
    by_cases e : i = 259
    · simp only [e, if_true]; rw [if_pos (by omega)]
    · simp only [e, if_false]; exact h7
end

/-! ### what the trie's links hold -/
def root (tx : List (List UInt8)) (b : Nat) : Int := if [UInt8.ofNat b] ∈ tx then (ix tx [UInt8.ofNat b] : Int) else 0
def nx (tx : List (List UInt8)) (k : Int) : Option Int := match tx[(k / 256).toNat]? with
  | some u => if 0 < k / 256 ∧ (UInt8.ofNat (k % 256).toNat :: u) ∈ tx then some (ix tx (UInt8.ofNat (k % 256).toNat :: u) : Int) else none
  | none => none

theorem ofNat_toNat8 (b : UInt8) : UInt8.ofNat b.toNat = b := by simp
theorem nx_at {tx : List (List UInt8)} {u : List UInt8} (hu : u ∈ tx) (b : UInt8) (h0 : ix tx u ≠ 0) :
    nx tx ((ix tx u : Int) * 256 + (b.toNat : Int)) = if (b :: u) ∈ tx then some (ix tx (b :: u) : Int) else none := by
  have hb := b.toNat_lt
  have e1 : ((ix tx u : Int) * 256 + (b.toNat : Int)) / 256 = (ix tx u : Int) := by omega
  have e2 : (((ix tx u : Int) * 256 + (b.toNat : Int)) % 256).toNat = b.toNat := by omega
  unfold nx
  rw [e1, e2, ofNat_toNat8, Int.toNat_natCast, get_ix hu]
  have : (0 : Int) < (ix tx u : Int) := by omega
  simp only [this, true_and]
theorem root_at (tx : List (List UInt8)) (b : UInt8) : root tx b.toNat = if [b] ∈ tx then (ix tx [b] : Int) else 0 := by
  unfold root
  rw [ofNat_toNat8]

/-! ### child -/
set_option maxRecDepth 100000 in
set_option maxHeartbeats 400000 in
theorem child_root (sb : Nat) (b : UInt8) (w : World) {rt : Nat → Int} {mb : Nat} {fv lv ev : Value} (hS : Str w sb rt mb fv lv ev) :
    Calls Try.prog 59 #[.pointer (some ⟨sb, 0, none⟩), .int .i32 0, .int .u8 (b.toNat : Int)] w fun e w' => e = .returned (.tuple #[.int .i32 (rt b.toNat), .bool (rt b.toNat != 0)]) ∧ ∃ n, w' = w.drewN n := by
  have hb := b.toNat_lt
  have hc := hS.cRoot (b := b.toNat) hb
  clear hS
  generalize rt b.toNat = r at *
  generalize b.toNat = k at *
  go_enter Try.func59, Try.ntmps59
  go_wp2
  go_quiet (fail)
  go_wp2
  go_ret2
  exact ⟨rfl, _, rfl⟩

set_option maxRecDepth 100000 in
set_option maxHeartbeats 400000 in
theorem child_next (sb : Nat) (s : Int) (b : UInt8) (w : World) {rt : Nat → Int} {mb n : Nat} {fv lv ev : Value} {g : Int → Option Int} (hS : Str w sb rt mb fv lv ev) (hM : MapIs w mb n g) (hs0 : 1 ≤ s) (hs1 : s < 2147483648) :
    Calls Try.prog 59 #[.pointer (some ⟨sb, 0, none⟩), .int .i32 s, .int .u8 (b.toNat : Int)] w fun e w' => e = .returned (.tuple #[.int .i32 ((g (s * 256 + (b.toNat : Int))).getD 0), .bool (g (s * 256 + (b.toNat : Int))).isSome]) ∧ ∃ n, w' = w.drewN n := by
  have hb := b.toNat_lt
  have hc := hS.cMap
  have hk := bits_key s (b.toNat : Int) (by omega) hs1 (by omega) (by omega)
  have hl := hM.look (s * 256 + (b.toNat : Int)) (by omega) (by omega)
  clear hS hM
  generalize b.toNat = k at *
  go_enter Try.func59, Try.ntmps59
  go_wp2
  go_ret2
  exact ⟨rfl, 0, rfl⟩

/-- 'child' in the trie's words. -/
theorem child_any (sb : Nat) (b : UInt8) (w : World) {tx : List (List UInt8)} {u : List UInt8} {mb n : Nat} {fv lv ev : Value} (hT : Trie tx) (hlen : tx.length < 2147483648) (hu : u ∈ tx) (hS : Str w sb (root tx) mb fv lv ev) (hM : MapIs w mb n (nx tx)) :
    Calls Try.prog 59 #[.pointer (some ⟨sb, 0, none⟩), .int .i32 (ix tx u : Int), .int .u8 (b.toNat : Int)] w fun e w' =>
      e = .returned (.tuple #[.int .i32 (if (b :: u) ∈ tx then (ix tx (b :: u) : Int) else 0), .bool (decide ((b :: u) ∈ tx))]) ∧ ∃ n, w' = w.drewN n := by
  by_cases h0 : ix tx u = 0
  · have hu0 := (hT.ix_zero hu).1 h0
    subst hu0
    rw [h0]
    refine (child_root sb b w hS).mono ?_
    rintro e w' ⟨rfl, h⟩
    refine ⟨?_, h⟩
    rw [root_at]
    by_cases hm : [b] ∈ tx
    · have : ix tx [b] ≠ 0 := fun e => by have := (hT.ix_zero hm).1 e; simp at this
      simp [hm, this]
    · simp [hm]
  · have hlt := ix_lt hu
    refine (child_next sb (ix tx u : Int) b w hS hM (by omega) (by omega)).mono ?_
    rintro e w' ⟨rfl, h⟩
    refine ⟨?_, h⟩
    rw [nx_at hu b h0]
    by_cases hm : (b :: u) ∈ tx <;> simp [hm]

/-! ### step -/
def Fails (tx : List (List UInt8)) (m : Nat) (fs : List Value) : Prop := ∀ v, v ∈ tx → v ≠ [] → v.length ≤ m → fs[ix tx v]? = some (.int .i32 (ix tx (lpp tx v) : Int))

set_option maxRecDepth 100000 in
set_option maxHeartbeats 1000000 in
theorem step_any (sb : Nat) (b : UInt8) (w : World) {tx : List (List UInt8)} {u : List UInt8} {mb n fb fcap : Nat} {fs : List Value} {lv ev : Value} (hT : Trie tx) (hlen : tx.length < 2147483648) (hu : u ∈ tx)
    (hS : Str w sb (root tx) mb (.slice (some ⟨fb, 0, none⟩) fs.length fcap) lv ev) (hM : MapIs w mb n (nx tx)) (hR : Row w 21 fb fcap fs) (hfs : fs.length = tx.length) (hF : Fails tx u.length fs) :
    Calls Try.prog 58 #[.pointer (some ⟨sb, 0, none⟩), .int .i32 (ix tx u : Int), .int .u8 (b.toNat : Int)] w fun e w' => e = .returned (.int .i32 (ix tx (lp tx (b :: u)) : Int)) ∧ w' = w := by
  have hb := b.toNat_lt
  have hcR := hS.cRoot (b := b.toNat) hb
  have hcM := hS.cMap
  have hcF := hS.cF
  rw [root_at] at hcR
  have hix := ix_lt hu
  go_enter Try.func58, Try.ntmps58
  go_wp2
  go_loopg [1] u.length (fun k p wr => wr = w ∧ ∃ v, v ∈ tx ∧ v.length ≤ k ∧ v.length ≤ u.length ∧ p = .int .i32 (ix tx v : Int) ∧ lp tx (b :: v) = lp tx (b :: u))
  case atStart => exact ⟨rfl, u, hu, Nat.le_refl _, Nat.le_refl _, rfl, rfl⟩
  case round =>
    obtain ⟨rfl, v, hv, hvk, hvu, rfl, hlp⟩ := hrel
    have HL : Hid (lp tx (b :: v) = lp tx (b :: u)) := hlp
    clear hlp
    have hvx := ix_lt hv
    by_cases h0 : ix tx v = 0
    · have hv0 := (hT.ix_zero hv).1 h0
      subst hv0
      rw [h0]
      have HR : Hid (wr.cell? ⟨sb, b.toNat, none⟩ = some (.int .i32 (if [b] ∈ tx then (ix tx [b] : Int) else 0))) := hcR
      have HA : Hid ((if [b] ∈ tx then (ix tx [b] : Int) else 0) = (ix tx (lp tx (b :: u)) : Int)) := by
        show _ = _
        rw [← HL.out]
        by_cases hm : [b] ∈ tx
        · rw [if_pos hm, lp_self hm]
        · rw [if_neg hm, lp_root hT b hm, hT.ix_nil]; rfl
      rw [HA.out] at hcR
      generalize b.toNat = bn at *
      clear HA HR HL hS hM hF hR hT
      go_wp2
      go_ret
      exact ⟨rfl, rfl⟩
    · have hk := bits_key (ix tx v : Int) (b.toNat : Int) (by omega) (by omega) (by omega) (by omega)
      have hl := hM.look ((ix tx v : Int) * 256 + (b.toNat : Int)) (by omega) (by omega)
      rw [nx_at hv b h0] at hl
      have hne : v ≠ [] := fun e => h0 ((hT.ix_zero hv).2 e)
      have h0' : ((ix tx v : Int) != 0) = true := by rw [bne_iff_ne]; omega
      by_cases hm : (b :: v) ∈ tx
      · rw [if_pos hm] at hl
        have HA : Hid ((ix tx (b :: v) : Int) = (ix tx (lp tx (b :: u)) : Int)) := by
          show _ = _
          rw [← HL.out, lp_self hm]
        rw [HA.out] at hl
        clear HA HL hS hM hF hR hT hcR hm
        generalize b.toNat = bn at *
        simp only [Option.getD_some, Option.isSome_some] at hl
        go_wp2
        go_ret
        exact ⟨rfl, rfl⟩
      · rw [if_neg hm] at hl
        have hfc := hR.cellD (hF v hv hne hvu)
        have HP : Hid (lp tx (b :: lpp tx v) = lp tx (b :: u)) := (lp_miss hT b hne hm).symm.trans HL.out
        have hpl := lpp_lt (tx := tx) hne
        have hpm := lpp_mem hT.nil_mem v
        clear HL hS hM hF hR hT hcR hm hne h0
        simp only [Option.getD_none, Option.isSome_none] at hl
        go_wp2
        go_roundg (lpp tx v).length
        case measure => omega
        case rel => exact ⟨rfl, lpp tx v, hpm, Nat.le_refl _, by omega, rfl, HP.out⟩
end Go.Proofs.Qxb6000411a
