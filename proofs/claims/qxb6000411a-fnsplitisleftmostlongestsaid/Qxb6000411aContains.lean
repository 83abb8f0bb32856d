/-
  'contains' and 'hasPrefix' by their contracts.
-/
import Derived.Test.Qxb6000411aFrames2
namespace Go.Proofs.Qxb6000411a
open Go.RowKit Go.Maps Pl
set_option linter.unusedVariables false

theorem toList_bsl (s : ByteArray) : s.toList = bsl s := Go.ByteArray.toList_eq s
theorem bsl_extract (s : ByteArray) (a b : Nat) : bsl (s.extract a b) = ((bsl s).drop a).take (b - a) := by
  unfold bsl
  simp
theorem cut_eq (s sub : ByteArray) (p : Nat) : ((s.extract p (p + sub.size)).toList == sub.toList) = true ↔ bsl sub <+: (bsl s).drop p := by
  rw [beq_iff_eq, toList_bsl, toList_bsl, bsl_extract, List.prefix_iff_eq_take, bsl_len, Nat.add_sub_cancel_left]
  exact eq_comm
theorem inf_of_pre {s x : List UInt8} {p : Nat} (hp : p ≤ x.length) (h : s <+: x.drop p) : inf s x = true := (inf_iff s x).2 ⟨p, hp, h⟩
theorem not_inf {s x : List UInt8} (h : ∀ q, q ≤ x.length → ¬ s <+: x.drop q) : inf s x = false := by
  cases hi : inf s x with
  | false => rfl
  | true =>
    obtain ⟨p, hp, hs⟩ := (inf_iff s x).1 hi
    exact absurd hs (h p hp)

set_option maxRecDepth 100000 in
set_option maxHeartbeats 1000000 in
theorem contains_any (s sub : ByteArray) (w : World) (hs : s.size ≤ 1048576) (hsub : sub.size ≤ 1048576) :
    Calls Try.prog 24 #[.string s, .string sub] w fun e w' => e = .returned (.bool (inf (bsl sub) (bsl s))) ∧ w' = w := by
  go_enter Try.func24, Try.ntmps24
  go_wp2
  go_loopg [5] (s.size + 1) (fun m i wr => wr = w ∧ ∃ p : Nat, i = .int .i64 p ∧ p ≤ s.size + 1 ∧ s.size + 1 - p ≤ m ∧ Hid (∀ q, q < p → ¬ bsl sub <+: (bsl s).drop q))
  case atStart => exact ⟨rfl, 0, rfl, Nat.zero_le _, Nat.le_refl _, fun q hq => by omega⟩
  case round =>
    obtain ⟨rfl, p, rfl, hp, hpm, hno⟩ := hrel
    by_cases hlt : p + sub.size ≤ s.size
    · by_cases hc : ((s.extract p (p + sub.size)).toList == sub.toList) = true
      · have hf := keep (inf_of_pre (by rw [bsl_len]; omega) ((cut_eq s sub p).1 hc))
        go_wp2
        go_ret
        rw [hf.out]
        exact ⟨rfl, rfl⟩
      · have hc' : ((s.extract p (p + sub.size)).toList == sub.toList) = false := by simpa using hc
        have hn2 := keep (fun h => hc ((cut_eq s sub p).2 h))
        clear hc
        go_wp2
        go_roundg (s.size + 1 - (p + 1))
        case measure => omega
        case rel =>
          refine ⟨rfl, p + 1, by go_num, by omega, Nat.le_refl _, ?_⟩
          intro q hq
          rcases Nat.lt_or_ge q p with h | h
          · exact hno.out q h
          · obtain rfl : q = p := by omega
            exact hn2.out
    · have hf := keep (not_inf (s := bsl sub) (x := bsl s) (by
        intro q hq hpre
        rcases Nat.lt_or_ge q p with h | h
        · exact hno.out q h hpre
        · have := hpre.length_le
          rw [List.length_drop, bsl_len, bsl_len] at this
          rw [bsl_len] at hq
          omega))
      go_wp2
      go_ret
      rw [hf.out]
      exact ⟨rfl, rfl⟩

set_option maxRecDepth 100000 in
set_option maxHeartbeats 1000000 in
theorem hasPrefix_any (s sub : ByteArray) (w : World) (hs : s.size ≤ maxLen) (hsub : sub.size ≤ maxLen) :
    Calls Try.prog 16 #[.string s, .string sub] w fun e w' => e = .returned (.bool ((bsl sub).isPrefixOf (bsl s))) ∧ w' = w := by
  unfold maxLen at hs hsub
  by_cases hlt : sub.size ≤ s.size
  · have hcut := cut_eq s sub 0
    simp only [Nat.zero_add, List.drop_zero] at hcut
    by_cases hc : ((s.extract 0 sub.size).toList == sub.toList) = true
    · have hf : Hid ((bsl sub).isPrefixOf (bsl s) = true) := List.isPrefixOf_iff_prefix.2 (hcut.1 hc)
      clear hcut
      go_enter Try.func16, Try.ntmps16
      go_wp2
      go_ret
      rw [hf.out]
      exact ⟨rfl, rfl⟩
    · have hf : Hid ((bsl sub).isPrefixOf (bsl s) = false) := by
        show _ = _
        rw [Bool.eq_false_iff]
        exact fun h => hc (hcut.2 (List.isPrefixOf_iff_prefix.1 h))
      have hc' : ((s.extract 0 sub.size).toList == sub.toList) = false := by simpa using hc
      clear hcut hc
      go_enter Try.func16, Try.ntmps16
      go_wp2
      go_ret
      rw [hf.out]
      exact ⟨rfl, rfl⟩
  · have hf : Hid ((bsl sub).isPrefixOf (bsl s) = false) := by
      show _ = _
      rw [Bool.eq_false_iff]
      intro h
      have := (List.isPrefixOf_iff_prefix.1 h).length_le
      rw [bsl_len, bsl_len] at this
      omega
    go_enter Try.func16, Try.ntmps16
    go_wp2
    go_ret
    rw [hf.out]
    exact ⟨rfl, rfl⟩
end Go.Proofs.Qxb6000411a
