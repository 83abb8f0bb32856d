/-
  The finished automaton in memory ('SetIs'); 'index' by its contract.
-/
import Derived.Test.Qxb6000411aStep
import Derived.Test.Qxb6000411aPlain2
namespace Go.Proofs.Qxb6000411a
open Go.RowKit Go.Maps Pl

def bsl (s : ByteArray) : List UInt8 := s.data.toList
theorem bsl_len (s : ByteArray) : (bsl s).length = s.size := by simp [bsl]
theorem bsl_drop (s : ByteArray) (k : Nat) (h : k < s.size) : (bsl s).drop k = s[k] :: (bsl s).drop (k + 1) := by
  rw [List.drop_eq_getElem_cons (by rw [bsl_len]; exact h)]
  rfl

/-- The automaton of strs lies at block sb; all its blocks lie from lo on, below hi. -/
structure SetAt (w : World) (sb : Nat) (strs tx : List (List UInt8)) (mb n fb fcap gb gcap eb ecap : Nat) : Prop where
  trie : Trie tx
  len : tx.length < 2147483648
  mem : ∀ s, s ∈ strs → s ∈ tx
  few : strs.length < 2147483648
  str : Str w sb (root tx) mb (.slice (some ⟨fb, 0, none⟩) tx.length fcap) (.slice (some ⟨gb, 0, none⟩) tx.length gcap) (.slice (some ⟨eb, 0, none⟩) tx.length ecap)
  map : MapIs w mb n (nx tx)
  fail : Row w 21 fb fcap (tx.map fun u => .int .i32 (ix tx (lpp tx u) : Int))
  longest : Row w 21 gb gcap (tx.map fun u => .int .i32 (lg strs u : Int))
  least : Row w 21 eb ecap (tx.map fun u => .int .i32 (lb (fun s => s.isPrefixOf u) strs))

def SetIs (w : World) (lo hi sb : Nat) (strs : List (List UInt8)) : Prop :=
  ∃ tx mb n fb fcap gb gcap eb ecap, SetAt w sb strs tx mb n fb fcap gb gcap eb ecap ∧ (lo ≤ sb ∧ sb < hi) ∧ (lo ≤ mb ∧ mb < hi) ∧ (lo ≤ fb ∧ fb < hi) ∧ (lo ≤ gb ∧ gb < hi) ∧ (lo ≤ eb ∧ eb < hi)

theorem SetIs.same {w w' : World} {lo hi sb : Nat} {strs : List (List UInt8)} (h : SetIs w lo hi sb strs) (hh : ∀ k, lo ≤ k → k < hi → w'.heap[k]? = w.heap[k]?) : SetIs w' lo hi sb strs := by
  obtain ⟨tx, mb, n, fb, fcap, gb, gcap, eb, ecap, h, h1, h2, h3, h4, h5⟩ := h
  exact ⟨tx, mb, n, fb, fcap, gb, gcap, eb, ecap, ⟨h.trie, h.len, h.mem, h.few, h.str.same (hh _ h1.1 h1.2), h.map.same (hh _ h2.1 h2.2), h.fail.same (hh _ h3.1 h3.2), h.longest.same (hh _ h4.1 h4.2), h.least.same (hh _ h5.1 h5.2)⟩, h1, h2, h3, h4, h5⟩

theorem map_ix {tx : List (List UInt8)} {u : List UInt8} (hu : u ∈ tx) (f : List UInt8 → Value) : (tx.map f)[ix tx u]? = some (f u) := by
  rw [List.getElem?_map, get_ix hu]
  rfl

section
variable {w : World} {sb : Nat} {strs tx : List (List UInt8)} {mb n fb fcap gb gcap eb ecap : Nat}
theorem SetAt.step (h : SetAt w sb strs tx mb n fb fcap gb gcap eb ecap) (b : UInt8) (x : List UInt8) :
    Calls Try.prog 58 #[.pointer (some ⟨sb, 0, none⟩), .int .i32 (ix tx (lp tx x) : Int), .int .u8 (b.toNat : Int)] w fun e w' => e = .returned (.int .i32 (ix tx (lp tx (b :: x)) : Int)) ∧ w' = w := by
  have hS := h.str
  have hl : (tx.map fun u => Value.int .i32 (ix tx (lpp tx u) : Int)).length = tx.length := by simp
  rw [← hl] at hS
  rw [lp_cons h.trie b x]
  refine step_any sb b w h.trie h.len (lp_mem h.trie.nil_mem x) hS h.map h.fail hl ?_
  intro v hv _ _
  exact map_ix hv _
end

set_option maxRecDepth 100000 in
set_option maxHeartbeats 1000000 in
theorem index_at (text : ByteArray) (w : World) (sb : Nat) (strs tx : List (List UInt8)) (mb n fb fcap gb gcap eb ecap : Nat) (h : SetAt w sb strs tx mb n fb fcap gb gcap eb ecap) (hs : text.size ≤ maxLen) :
    Calls Try.prog 46 #[.pointer (some ⟨sb, 0, none⟩), .string text] w fun e w' => e = .returned (.int .i64 (lb (fun s => inf s (bsl text)) strs)) ∧ w' = w := by
  unfold maxLen at hs
  have hcE := h.str.cE
  have hE0 := h.least.cellD (map_ix h.trie.nil_mem _)
  rw [h.trie.ix_nil] at hE0
  have hpos : 0 < tx.length := by have := ix_lt h.trie.nil_mem; omega
  have hfew := h.few
  have hH : Hid (SetAt w sb strs tx mb n fb fcap gb gcap eb ecap) := h
  clear h
  go_enter Try.func46, Try.ntmps46
  go_wp2_with fail
  go_loopg [5, 6, 7] text.size (fun m l s i wr => wr = w ∧ ∃ k : Nat, k ≤ text.size ∧ k ≤ m ∧ i = .int .i64 ((k : Int) - 1) ∧ s = .int .i32 (ix tx (lp tx ((bsl text).drop k)) : Int) ∧ l = .int .i32 (lb (fun s => inf s ((bsl text).drop k)) strs))
  case atStart =>
    refine ⟨rfl, text.size, Nat.le_refl _, Nat.le_refl _, rfl, ?_, ?_⟩
    · rw [List.drop_of_length_le (by rw [bsl_len]; exact Nat.le_refl _), lp_nil, hH.out.trie.ix_nil]; rfl
    · rw [List.drop_of_length_le (by rw [bsl_len]; exact Nat.le_refl _)]; rfl
  case round =>
    obtain ⟨rfl, k, hk, hkm, rfl, rfl, rfl⟩ := hrel
    have hlo := lb_ge (fun s => inf s ((bsl text).drop k)) strs
    have hhi := lb_le (fun s => inf s ((bsl text).drop k)) strs
    by_cases hk0 : k = 0
    · subst hk0
      simp only [List.drop_zero] at *
      generalize hA : lb (fun s => inf s (bsl text)) strs = A at *
      have HA := keep hA
      clear hA
      go_wp2_with fail
      go_ret
      rw [HA.out]
      exact ⟨rfl, rfl⟩
    · by_cases hz : lb (fun s => inf s ((bsl text).drop k)) strs = 0
      · have HA : Hid (lb (fun s => inf s (bsl text)) strs = 0) := lb_inf_zero hz
        rw [hz]
        clear hlo hhi hz
        go_wp2_with fail
        go_ret
        rw [HA.out]
        exact ⟨rfl, rfl⟩
      · obtain ⟨j, rfl⟩ : ∃ j, k = j + 1 := ⟨k - 1, by omega⟩
        have hd := bsl_drop text j (by omega)
        have hst := hH.out.step text[j] ((bsl text).drop (j + 1))
        rw [← hd] at hst
        have hEc := hH.out.least.cellD (map_ix (lp_mem hH.out.trie.nil_mem ((bsl text).drop j)) _)
        rw [lb_lp hH.out.mem] at hEc
        have hix := ix_lt (lp_mem hH.out.trie.nil_mem ((bsl text).drop j))
        have hlm : lb (fun s => inf s ((bsl text).drop j)) strs = lmin (lb (fun s => inf s ((bsl text).drop (j + 1))) strs) (lb (fun s => s.isPrefixOf ((bsl text).drop j)) strs) := by
          rw [hd]; exact lb_inf_cons strs _ _
        have HLM := keep hlm
        have HST := keep hst
        have hlo2 := lb_ge (fun s => s.isPrefixOf ((bsl text).drop j)) strs
        have hhi2 := lb_le (fun s => s.isPrefixOf ((bsl text).drop j)) strs
        clear hd hlm hst
        generalize lb (fun s => inf s ((bsl text).drop (j + 1))) strs = A at *
        generalize lb (fun s => s.isPrefixOf ((bsl text).drop j)) strs = C at *
        generalize hS : ix tx (lp tx ((bsl text).drop j)) = S at *
        have HS := keep hS
        clear hS
        generalize ix tx (lp tx ((bsl text).drop (j + 1))) = S1 at *
        have hjs : ((j + 1 : Nat) : Int) - 1 = (j : Int) := by omega
        rw [hjs]
        clear hjs hE0
        have hz' : (A != 0) = true := by rw [bne_iff_ne]; exact hz
        have hjl : j < text.size := by omega
        go_wp2_with (go_at_call 58; refine HST.out.mono ?_; rintro e w' ⟨rfl, rfl⟩)
        all_goals
          go_roundg j
          case measure => omega
          case rel => exact ⟨rfl, j, by omega, Nat.le_refl _, rfl, by rw [HS.out], by rw [HLM.out]; unfold lmin; first | rw [if_pos (by omega)] | rw [if_neg (by omega)]⟩

theorem index_any (text : ByteArray) (w : World) (lo hi sb : Nat) (strs : List (List UInt8)) (h : SetIs w lo hi sb strs) (hs : text.size ≤ maxLen) :
    Calls Try.prog 46 #[.pointer (some ⟨sb, 0, none⟩), .string text] w fun e w' => e = .returned (.int .i64 (lb (fun s => inf s (bsl text)) strs)) ∧ w' = w := by
  obtain ⟨tx, mb, n, fb, fcap, gb, gcap, eb, ecap, h, _⟩ := h
  exact index_at text w sb strs tx mb n fb fcap gb gcap eb ecap h hs

/-- ZZStringSetIndex -/
theorem zzindex_any (text : ByteArray) (w : World) (lo hi sb : Nat) (strs : List (List UInt8)) (h : SetIs w lo hi sb strs) (hs : text.size ≤ maxLen) :
    Calls Try.prog 22 #[.pointer (some ⟨sb, 0, none⟩), .string text] w fun e w' => e = .returned (.int .i64 (lb (fun s => inf s (bsl text)) strs)) ∧ w' = w := by
  have hc := keep (index_any text w lo hi sb strs h hs)
  clear h
  go_enter Try.func22, Try.ntmps22
  go_wp2_with (go_at_call 46; refine hc.out.mono ?_; rintro e w' ⟨rfl, rfl⟩)
  go_ret
  exact ⟨rfl, rfl⟩
end Go.Proofs.Qxb6000411a
