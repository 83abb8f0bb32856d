/-
  A slice of slices of strings; the functions that only count it.
-/
import Derived.Test.Qxb6000411aCut
import Derived.Test.Qxb6000411aFrames2
namespace Go.Proofs.Qxb6000411a
open Go.RowKit Go.Maps Pl
set_option linter.unusedVariables false

/-- An inner slice: its address, its capacity, its strings. -/
abbrev In := Option Addr × Nat × List ByteArray
def inV (x : In) : Value := .slice x.1 x.2.2.length x.2.1
/-- What the counting walks take. -/
structure SSC (w : World) (ao : Option Addr) (xs : List In) : Prop where
  cells : xs = [] ∨ ∃ b off, ao = some ⟨b, off, none⟩ ∧ ∀ i (h : i < xs.length), w.cell? ⟨b, off + i, none⟩ = some (inV xs[i])
  inn : ∀ x, x ∈ xs → SC w x.1 x.2.2 ∧ x.2.2.length ≤ maxLen ∧ ∀ s, s ∈ x.2.2 → s.size ≤ maxLen
  len : xs.length ≤ maxLen

set_option maxRecDepth 100000 in
set_option maxHeartbeats 4000000 in
theorem zzBytes28 (w : World) (ao : Option Addr) (cap : Nat) (xs : List In) (text : ByteArray) (hv : SSC w ao xs) (htx : text.size ≤ maxLen) :
    Calls Try.prog 28 #[.slice ao xs.length cap, .string text] w fun e w' => ∃ b : Bool, e = .returned (.bool b) ∧ w' = w := by
  have hlen := hv.len
  unfold maxLen at hlen htx
  have Hv := keep hv
  clear hv
  go_enter Try.func28, Try.ntmps28
  go_wp2_with fail
  all_goals first
    | (go_ret; exact ⟨_, rfl, rfl⟩)
    | skip
  go_loopg [5, 6] xs.length (fun m n i wr => wr = w ∧ (∃ x, n = .int .i64 x) ∧ ∃ k : Nat, k ≤ xs.length ∧ xs.length - k ≤ m ∧ i = .int .i64 k)
  case atStart => exact ⟨rfl, ⟨_, rfl⟩, 0, Nat.zero_le _, Nat.le_refl _, rfl⟩
  case round =>
    rename_i J K hJ hK
    have HJ := keep hJ
    have HK := keep hK
    clear hJ hK
    obtain ⟨rfl, ⟨x, rfl⟩, k, hk, hkm, rfl⟩ := hrel
    by_cases hlt : k < xs.length
    · obtain ⟨b, off, rfl, hc⟩ : ∃ b off, ao = some ⟨b, off, none⟩ ∧ ∀ i (h : i < xs.length), wr.cell? ⟨b, off + i, none⟩ = some (inV xs[i]) := by
        rcases Hv.out.cells with rfl | h
        · simp at hlt
        · exact h
      have hck := hc k hlt
      have hin := keep (Hv.out.inn _ (List.getElem_mem hlt)).1
      have hlen2 := (Hv.out.inn _ (List.getElem_mem hlt)).2.1
      clear hc
      unfold maxLen at hlen2
      unfold inV at hck
      have hlt' : (k : Int) < (xs.length : Int) := by omega
      generalize xs[k] = X at *
      obtain ⟨ao2, cap2, ss⟩ := X
      simp only at hck hin hlen2
      go_wp2_with fail
      all_goals first
        | (go_ret; exact ⟨_, rfl, rfl⟩)
        | skip
      go_loopg [5, 7] ss.length (fun m n i wx => wx = wr ∧ (∃ x, n = .int .i64 x) ∧ ∃ j : Nat, j ≤ ss.length ∧ ss.length - j ≤ m ∧ i = .int .i64 j)
      case atStart => exact ⟨rfl, ⟨_, rfl⟩, 0, Nat.zero_le _, Nat.le_refl _, rfl⟩
      case round =>
        rename_i J2 K2 hJ2 hK2
        have HJ2 := keep hJ2
        have HK2 := keep hK2
        clear hJ2 hK2
        obtain ⟨rfl, ⟨x2, rfl⟩, j, hj, hjm, rfl⟩ := hrel
        by_cases hlt2 : j < ss.length
        · obtain ⟨b2, off2, rfl, hc⟩ : ∃ b off, ao2 = some ⟨b, off, none⟩ ∧ ∀ i (h : i < ss.length), wr.cell? ⟨b, off + i, none⟩ = some (.string ss[i]) := by
            rcases hin.out with rfl | h
            · simp at hlt2
            · exact h
          have hck2 := hc j hlt2
          clear hc
          have hlt2' : (j : Int) < (ss.length : Int) := by omega
          have hK2 := HK2.out
          go_wp2_with fail
          all_goals first
            | (go_ret; exact ⟨_, rfl, rfl⟩)
            | (have hJ2 := HJ2.out; go_roundg (ss.length - (j + 1)); (case measure => omega); (case rel => exact ⟨rfl, ⟨_, rfl⟩, j + 1, by omega, by omega, by go_num⟩))
        · have hK := HK.out
          go_wp2_with fail
          have hJ := HJ.out
          go_roundg (xs.length - (k + 1))
          case measure => omega
          case rel => exact ⟨rfl, ⟨_, rfl⟩, k + 1, by omega, by omega, by go_num⟩
    · go_wp2_with fail
      all_goals (go_ret; exact ⟨_, rfl, rfl⟩)

set_option maxRecDepth 100000 in
set_option maxHeartbeats 4000000 in
theorem zzBytes33 (w : World) (ao : Option Addr) (cap : Nat) (xs : List In) (text : ByteArray) (hv : SSC w ao xs) (htx : text.size ≤ maxLen) :
    Calls Try.prog 33 #[.slice ao xs.length cap, .string text] w fun e w' => ∃ b : Bool, e = .returned (.bool b) ∧ w' = w := by
  have hlen := hv.len
  unfold maxLen at hlen htx
  have Hv := keep hv
  clear hv
  go_enter Try.func33, Try.ntmps33
  go_wp2_with fail
  all_goals first
    | (go_ret; exact ⟨_, rfl, rfl⟩)
    | skip
  go_loopg [5, 6] xs.length (fun m n i wr => wr = w ∧ (∃ x, n = .int .i64 x) ∧ ∃ k : Nat, k ≤ xs.length ∧ xs.length - k ≤ m ∧ i = .int .i64 k)
  case atStart => exact ⟨rfl, ⟨_, rfl⟩, 0, Nat.zero_le _, Nat.le_refl _, rfl⟩
  case round =>
    rename_i J K hJ hK
    have HJ := keep hJ
    have HK := keep hK
    clear hJ hK
    obtain ⟨rfl, ⟨x, rfl⟩, k, hk, hkm, rfl⟩ := hrel
    by_cases hlt : k < xs.length
    · obtain ⟨b, off, rfl, hc⟩ : ∃ b off, ao = some ⟨b, off, none⟩ ∧ ∀ i (h : i < xs.length), wr.cell? ⟨b, off + i, none⟩ = some (inV xs[i]) := by
        rcases Hv.out.cells with rfl | h
        · simp at hlt
        · exact h
      have hck := hc k hlt
      have hin := keep (Hv.out.inn _ (List.getElem_mem hlt)).1
      have hlen2 := (Hv.out.inn _ (List.getElem_mem hlt)).2.1
      clear hc
      unfold maxLen at hlen2
      unfold inV at hck
      have hlt' : (k : Int) < (xs.length : Int) := by omega
      generalize xs[k] = X at *
      obtain ⟨ao2, cap2, ss⟩ := X
      simp only at hck hin hlen2
      go_wp2_with fail
      all_goals first
        | (go_ret; exact ⟨_, rfl, rfl⟩)
        | skip
      go_loopg [5, 7] ss.length (fun m n i wx => wx = wr ∧ (∃ x, n = .int .i64 x) ∧ ∃ j : Nat, j ≤ ss.length ∧ ss.length - j ≤ m ∧ i = .int .i64 j)
      case atStart => exact ⟨rfl, ⟨_, rfl⟩, 0, Nat.zero_le _, Nat.le_refl _, rfl⟩
      case round =>
        rename_i J2 K2 hJ2 hK2
        have HJ2 := keep hJ2
        have HK2 := keep hK2
        clear hJ2 hK2
        obtain ⟨rfl, ⟨x2, rfl⟩, j, hj, hjm, rfl⟩ := hrel
        by_cases hlt2 : j < ss.length
        · obtain ⟨b2, off2, rfl, hc⟩ : ∃ b off, ao2 = some ⟨b, off, none⟩ ∧ ∀ i (h : i < ss.length), wr.cell? ⟨b, off + i, none⟩ = some (.string ss[i]) := by
            rcases hin.out with rfl | h
            · simp at hlt2
            · exact h
          have hck2 := hc j hlt2
          clear hc
          have hlt2' : (j : Int) < (ss.length : Int) := by omega
          have hK2 := HK2.out
          go_wp2_with fail
          all_goals first
            | (go_ret; exact ⟨_, rfl, rfl⟩)
            | (have hJ2 := HJ2.out; go_roundg (ss.length - (j + 1)); (case measure => omega); (case rel => exact ⟨rfl, ⟨_, rfl⟩, j + 1, by omega, by omega, by go_num⟩))
        · have hK := HK.out
          go_wp2_with fail
          have hJ := HJ.out
          go_roundg (xs.length - (k + 1))
          case measure => omega
          case rel => exact ⟨rfl, ⟨_, rfl⟩, k + 1, by omega, by omega, by go_num⟩
    · go_wp2_with fail
      all_goals (go_ret; exact ⟨_, rfl, rfl⟩)

set_option maxRecDepth 100000 in
set_option maxHeartbeats 4000000 in
theorem zzBytes36 (w : World) (ao : Option Addr) (cap : Nat) (xs : List In) (text : ByteArray) (hv : SSC w ao xs) (htx : text.size ≤ maxLen) :
    Calls Try.prog 36 #[.slice ao xs.length cap, .string text] w fun e w' => ∃ b : Bool, e = .returned (.bool b) ∧ w' = w := by
  have hlen := hv.len
  unfold maxLen at hlen htx
  have Hv := keep hv
  clear hv
  go_enter Try.func36, Try.ntmps36
  go_wp2_with fail
  all_goals first
    | (go_ret; exact ⟨_, rfl, rfl⟩)
    | skip
  go_loopg [5, 6] xs.length (fun m n i wr => wr = w ∧ (∃ x, n = .int .i64 x) ∧ ∃ k : Nat, k ≤ xs.length ∧ xs.length - k ≤ m ∧ i = .int .i64 k)
  case atStart => exact ⟨rfl, ⟨_, rfl⟩, 0, Nat.zero_le _, Nat.le_refl _, rfl⟩
  case round =>
    rename_i J K hJ hK
    have HJ := keep hJ
    have HK := keep hK
    clear hJ hK
    obtain ⟨rfl, ⟨x, rfl⟩, k, hk, hkm, rfl⟩ := hrel
    by_cases hlt : k < xs.length
    · obtain ⟨b, off, rfl, hc⟩ : ∃ b off, ao = some ⟨b, off, none⟩ ∧ ∀ i (h : i < xs.length), wr.cell? ⟨b, off + i, none⟩ = some (inV xs[i]) := by
        rcases Hv.out.cells with rfl | h
        · simp at hlt
        · exact h
      have hck := hc k hlt
      have hin := keep (Hv.out.inn _ (List.getElem_mem hlt)).1
      have hlen2 := (Hv.out.inn _ (List.getElem_mem hlt)).2.1
      clear hc
      unfold maxLen at hlen2
      unfold inV at hck
      have hlt' : (k : Int) < (xs.length : Int) := by omega
      generalize xs[k] = X at *
      obtain ⟨ao2, cap2, ss⟩ := X
      simp only at hck hin hlen2
      go_wp2_with fail
      all_goals first
        | (go_ret; exact ⟨_, rfl, rfl⟩)
        | skip
      go_loopg [5, 7] ss.length (fun m n i wx => wx = wr ∧ (∃ x, n = .int .i64 x) ∧ ∃ j : Nat, j ≤ ss.length ∧ ss.length - j ≤ m ∧ i = .int .i64 j)
      case atStart => exact ⟨rfl, ⟨_, rfl⟩, 0, Nat.zero_le _, Nat.le_refl _, rfl⟩
      case round =>
        rename_i J2 K2 hJ2 hK2
        have HJ2 := keep hJ2
        have HK2 := keep hK2
        clear hJ2 hK2
        obtain ⟨rfl, ⟨x2, rfl⟩, j, hj, hjm, rfl⟩ := hrel
        by_cases hlt2 : j < ss.length
        · obtain ⟨b2, off2, rfl, hc⟩ : ∃ b off, ao2 = some ⟨b, off, none⟩ ∧ ∀ i (h : i < ss.length), wr.cell? ⟨b, off + i, none⟩ = some (.string ss[i]) := by
            rcases hin.out with rfl | h
            · simp at hlt2
            · exact h
          have hck2 := hc j hlt2
          clear hc
          have hlt2' : (j : Int) < (ss.length : Int) := by omega
          have hK2 := HK2.out
          go_wp2_with fail
          all_goals first
            | (go_ret; exact ⟨_, rfl, rfl⟩)
            | (have hJ2 := HJ2.out; go_roundg (ss.length - (j + 1)); (case measure => omega); (case rel => exact ⟨rfl, ⟨_, rfl⟩, j + 1, by omega, by omega, by go_num⟩))
        · have hK := HK.out
          go_wp2_with fail
          have hJ := HJ.out
          go_roundg (xs.length - (k + 1))
          case measure => omega
          case rel => exact ⟨rfl, ⟨_, rfl⟩, k + 1, by omega, by omega, by go_num⟩
    · go_wp2_with fail
      all_goals (go_ret; exact ⟨_, rfl, rfl⟩)

set_option maxRecDepth 100000 in
set_option maxHeartbeats 4000000 in
theorem bytesOfSets_any (w : World) (ao : Option Addr) (cap : Nat) (xs : List In) (hv : SSC w ao xs) :
    Calls Try.prog 29 #[.slice ao xs.length cap] w fun e w' => ∃ r : Int, e = .returned (.int .i64 r) ∧ w' = w ∧ 0 ≤ r ∧ r ≤ 1048577 ∧ (r ≤ 1048576 → ∀ i (h : i < xs.length), 16 * xs[i].2.2.length + szs xs[i].2.2 ≤ 1048576) := by
  have hlen := hv.len
  unfold maxLen at hlen
  have Hv := keep hv
  clear hv
  go_enter Try.func29, Try.ntmps29
  go_wp2_with fail
  go_loopg [3, 4] xs.length (fun m n i wr => wr = w ∧ (∃ x : Int, 24 ≤ x ∧ x ≤ 1048576 ∧ n = .int .i64 x) ∧ ∃ k : Nat, k ≤ xs.length ∧ xs.length - k ≤ m ∧ i = .int .i64 k ∧ Hid (∀ i (h : i < xs.length), i < k → 16 * xs[i].2.2.length + szs xs[i].2.2 ≤ 1048576))
  case atStart => exact ⟨rfl, ⟨24, by decide, by decide, rfl⟩, 0, Nat.zero_le _, Nat.le_refl _, rfl, fun i _ h => by omega⟩
  case round =>
    rename_i J K hJ hK
    have HJ := keep hJ
    obtain ⟨rfl, ⟨x, hx1, hx2, rfl⟩, k, hk, hkm, rfl, hno⟩ := hrel
    by_cases hlt : k < xs.length
    · obtain ⟨b, off, rfl, hc⟩ : ∃ b off, ao = some ⟨b, off, none⟩ ∧ ∀ i (h : i < xs.length), wr.cell? ⟨b, off + i, none⟩ = some (inV xs[i]) := by
        rcases Hv.out.cells with rfl | h
        · simp at hlt
        · exact h
      have hck := hc k hlt
      have hin := Hv.out.inn _ (List.getElem_mem hlt)
      have cb := keep (bytesOf_any wr xs[k].1 xs[k].2.1 xs[k].2.2 hin.1 hin.2.1 hin.2.2)
      clear hc hin
      unfold inV at hck
      have hlt' : (k : Int) < (xs.length : Int) := by omega
      have hX : Hid (∃ X, X = xs[k]) := ⟨_, rfl⟩
      obtain ⟨X, hX⟩ := hX.out
      rw [← hX] at hck cb
      have HX := keep hX
      clear hX
      go_wp2_with fail
      refine cb.out.mono ?_
      rintro e w' ⟨r, rfl, hw, hr1, hr2, hr3⟩
      rw [hw]
      clear hw w'
      have HR3 := keep hr3
      clear hr3
      go_wp2_with fail
      all_goals first
        | (go_ret; exact ⟨_, rfl, rfl, by decide, by decide, fun h => by omega⟩)
        | skip
      have hJ := HJ.out
      go_roundg (xs.length - (k + 1))
      case measure => omega
      case rel =>
        refine ⟨rfl, ⟨x + r, by omega, by omega, by go_num⟩, k + 1, hlt, Nat.le_refl _, by go_num, ?_⟩
        intro i hi hik
        rcases Nat.lt_or_ge i k with h | h
        · exact hno.out i hi h
        · obtain rfl : i = k := by omega
          have := HR3.out (by omega)
          rw [HX.out] at this
          omega
    · go_wp2_with fail
      go_ret
      exact ⟨_, rfl, rfl, by omega, by omega, fun _ i hi => hno.out i hi (by omega)⟩
end Go.Proofs.Qxb6000411a
