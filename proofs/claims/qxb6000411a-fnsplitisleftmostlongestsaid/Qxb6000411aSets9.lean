/-
  countsAndLens, longestAt.
-/
import Derived.Test.Qxb6000411aLaw8
namespace Go.Proofs.Qxb6000411a
open Go.RowKit Go.Maps Pl
set_option linter.unusedVariables false

theorem lg_more (l : List (List UInt8)) (s u : List UInt8) : lg (l ++ [s]) u = if lg l u < s.length ∧ s.isPrefixOf u = true then s.length else lg l u := by
  unfold lg
  rw [List.foldl_append]
  rfl
def allY (ys : List In) : List (List UInt8) := (ys.map fun y => y.2.2.map bsl).flatten
theorem allY_snoc {ys : List In} {k : Nat} (h : k < ys.length) : allY (ys.take (k + 1)) = allY (ys.take k) ++ ys[k].2.2.map bsl := by
  unfold allY
  rw [List.take_succ_eq_append_getElem h, List.map_append, List.flatten_append]
  simp
theorem allOf_eq {es : List (Nat × Nat × List (List UInt8))} {ys : List In} (h : es.map (·.2.2) = ys.map (fun y => y.2.2.map bsl)) : allOf es = allY ys := by
  unfold allOf allY
  rw [List.flatMap_def, h]

set_option maxRecDepth 100000 in
set_option maxHeartbeats 4000000 in
theorem countsAndLens_any (w : World) (ao : Option Addr) (cap : Nat) (xs : List In) (hv : SSC w ao xs) :
    Calls Try.prog 34 #[.slice ao xs.length cap] w fun e w' => ∃ r : Int, e = .returned (.int .i64 r) ∧ w' = w := by
  have hlen := hv.len
  unfold maxLen at hlen
  have Hv := keep hv
  clear hv
  go_enter Try.func34, Try.ntmps34
  go_wp2_with fail
  go_loopg [3, 4] xs.length (fun m n i wr => wr = w ∧ (∃ x : Int, n = .int .i64 x) ∧ ∃ k : Nat, k ≤ xs.length ∧ xs.length - k ≤ m ∧ i = .int .i64 k)
  case atStart => exact ⟨rfl, ⟨_, rfl⟩, 0, Nat.zero_le _, Nat.le_refl _, rfl⟩
  case round =>
    rename_i J K hJ hK
    have HJ := keep hJ
    have HK := keep hK
    clear hJ hK
    obtain ⟨rfl, ⟨x, rfl⟩, k, hk, hkm, rfl⟩ := hrel
    by_cases hlt : k < xs.length
    · obtain ⟨b, off, rfl, hc⟩ : ∃ b off, ao = some ⟨b, off, none⟩ ∧ ∀ i (h : i < xs.length), wr.cell? ⟨b, off + i, none⟩ = some (inV xs[i]) := by
        rcases Hv.out.cells with rfl | h
        · simp at hlt
        · exact h
      have hck := hc k hlt
      have hin := keep (Hv.out.inn _ (List.getElem_mem hlt)).1
      have hlen2 := (Hv.out.inn _ (List.getElem_mem hlt)).2.1
      clear hc
      unfold maxLen at hlen2
      unfold inV at hck
      have hlt' : (k : Int) < (xs.length : Int) := by omega
      generalize xs[k] = X at *
      obtain ⟨ao2, cap2, ss⟩ := X
      simp only at hck hin hlen2
      go_wp2_with fail
      go_loopg [3, 5] ss.length (fun m n i wx => wx = wr ∧ (∃ x : Int, n = .int .i64 x) ∧ ∃ j : Nat, j ≤ ss.length ∧ ss.length - j ≤ m ∧ i = .int .i64 j)
      case atStart => exact ⟨rfl, ⟨_, rfl⟩, 0, Nat.zero_le _, Nat.le_refl _, rfl⟩
      case round =>
        rename_i J2 K2 hJ2 hK2
        have HJ2 := keep hJ2
        have HK2 := keep hK2
        clear hJ2 hK2
        obtain ⟨rfl, ⟨x2, rfl⟩, j, hj, hjm, rfl⟩ := hrel
        by_cases hlt2 : j < ss.length
        · obtain ⟨b2, off2, rfl, hc⟩ : ∃ b off, ao2 = some ⟨b, off, none⟩ ∧ ∀ i (h : i < ss.length), wr.cell? ⟨b, off + i, none⟩ = some (.string ss[i]) := by
            rcases hin.out with rfl | h
            · simp at hlt2
            · exact h
          have hck2 := hc j hlt2
          clear hc
          have hlt2' : (j : Int) < (ss.length : Int) := by omega
          have hK2 := HK2.out
          go_wp2_with fail
          all_goals first
            | (go_ret; exact ⟨_, rfl, rfl⟩)
            | (have hJ2 := HJ2.out; go_roundg (ss.length - (j + 1)); (case measure => omega); (case rel => exact ⟨rfl, ⟨_, rfl⟩, j + 1, by omega, by omega, by go_num⟩))
        · have hK := HK.out
          go_wp2_with fail
          have hJ := HJ.out
          go_roundg (xs.length - (k + 1))
          case measure => omega
          case rel => exact ⟨rfl, ⟨_, rfl⟩, k + 1, by omega, by omega, by go_num⟩
    · go_wp2_with fail
      go_ret
      exact ⟨_, rfl, rfl⟩

set_option maxRecDepth 100000 in
set_option maxHeartbeats 4000000 in
theorem longestAt_any (s : ByteArray) (w : World) (ao : Option Addr) (cap : Nat) (ys : List In) (hA : SetsAt w ao ys) (hs : s.size ≤ 1048576) (hn : ys.length ≤ 4096) (hm : ∀ y, y ∈ ys → y.2.2.length ≤ 65536 ∧ szs y.2.2 ≤ 1048576) :
    Calls Try.prog 35 #[.slice ao ys.length cap, .string s] w fun e w' => e = .returned (.int .i64 (lg (allY ys) (bsl s) : Int)) ∧ w' = w := by
  have HA := keep hA
  have Hm := keep hm
  clear hA hm
  go_enter Try.func35, Try.ntmps35
  go_wp2_with fail
  go_loopg [5, 6] ys.length (fun m n i wr => wr = w ∧ ∃ k : Nat, k ≤ ys.length ∧ ys.length - k ≤ m ∧ i = .int .i64 k ∧ n = .int .i64 (lg (allY (ys.take k)) (bsl s) : Int))
  case atStart => exact ⟨rfl, 0, Nat.zero_le _, Nat.le_refl _, rfl, rfl⟩
  case round =>
    rename_i J K hJ hK
    have HJ := keep hJ
    have HK := keep hK
    clear hJ hK
    obtain ⟨rfl, k, hk, hkm, rfl, rfl⟩ := hrel
    by_cases hlt : k < ys.length
    · obtain ⟨zb, rfl, hzb, hc⟩ : ∃ zb, ao = some ⟨zb, 0, none⟩ ∧ zb < wr.heap.size ∧ ∀ i (h : i < ys.length), wr.cell? ⟨zb, i, none⟩ = some (inV ys[i]) ∧ StrsAt wr ys[i].1 ys[i].2.2 := by
        rcases HA.out with rfl | h
        · simp at hlt
        · exact h
      obtain ⟨hck, hst⟩ := hc k hlt
      have hin := keep hst
      obtain ⟨hm1, hm2⟩ := Hm.out _ (List.getElem_mem hlt)
      have hsn := keep (allY_snoc hlt)
      clear hc hst
      unfold inV at hck
      have hlt' : (k : Int) < (ys.length : Int) := by omega
      generalize ys[k] = X at *
      obtain ⟨ao2, cap2, ss⟩ := X
      simp only at hck hin hm1 hm2 hsn
      have hA0 : ∃ A, A = allY (ys.take k) := ⟨_, rfl⟩
      obtain ⟨A, hA0⟩ := hA0
      rw [← hA0] at hsn ⊢
      have HA0 := keep hA0
      clear hA0
      go_wp2_with fail
      go_loopg [5, 7] ss.length (fun m n i wx => wx = wr ∧ ∃ j : Nat, j ≤ ss.length ∧ ss.length - j ≤ m ∧ i = .int .i64 j ∧ n = .int .i64 (lg (A ++ (ss.take j).map bsl) (bsl s) : Int))
      case atStart => exact ⟨rfl, 0, Nat.zero_le _, Nat.le_refl _, rfl, by simp⟩
      case round =>
        rename_i J2 K2 hJ2 hK2
        have HJ2 := keep hJ2
        have HK2 := keep hK2
        clear hJ2 hK2
        obtain ⟨rfl, j, hj, hjm, rfl, rfl⟩ := hrel
        by_cases hlt2 : j < ss.length
        · obtain ⟨b2, rfl, hb2, hc⟩ : ∃ zb, ao2 = some ⟨zb, 0, none⟩ ∧ zb < wr.heap.size ∧ ∀ i (h : i < ss.length), wr.cell? ⟨zb, i, none⟩ = some (.string ss[i]) := by
            rcases hin.out with rfl | h
            · simp at hlt2
            · exact h
          have hck2 := hc j hlt2
          clear hc
          have hlt2' : (j : Int) < (ss.length : Int) := by omega
          have hsz : ss[j].size ≤ 1048576 := by
            have h1 := szs_take hlt2
            have h2 := sumLen_take (ss.map bsl) (j + 1)
            rw [← List.map_take] at h2
            unfold szs at h1 hm2
            omega
          have hmo := keep (lg_more (A ++ (ss.take j).map bsl) (bsl ss[j]) (bsl s))
          rw [bsl_len, List.append_assoc, show (ss.take j).map bsl ++ [bsl ss[j]] = (ss.take (j + 1)).map bsl from by rw [List.take_succ_eq_append_getElem hlt2, List.map_append]; rfl] at hmo
          have hlg := lg_le (A ++ (ss.take j).map bsl) (bsl s)
          rw [bsl_len] at hlg
          have cp := keep (hasPrefix_any s ss[j] wr (by unfold maxLen; omega) (by unfold maxLen; omega))
          generalize (bsl ss[j]).isPrefixOf (bsl s) = B at *
          generalize lg (A ++ (ss.take j).map bsl) (bsl s) = G at *
          have hK2 := HK2.out
          by_cases hgt : G < ss[j].size
          · have hgt' : decide ((G : Int) < (ss[j].size : Int)) = true := by rw [decide_eq_true_iff]; omega
            go_wp2_with fail
            refine cp.out.mono ?_
            rintro e w' ⟨rfl, hw⟩
            rw [hw]
            clear hw w'
            cases B with
            | true =>
              go_wp2_with fail
              have hJ2 := HJ2.out
              go_roundg (ss.length - (j + 1))
              case measure => omega
              case rel => exact ⟨rfl, j + 1, hlt2, Nat.le_refl _, by go_num, by rw [hmo.out, if_pos (by simp [hgt])]⟩
            | false =>
              go_wp2_with fail
              have hJ2 := HJ2.out
              go_roundg (ss.length - (j + 1))
              case measure => omega
              case rel => exact ⟨rfl, j + 1, hlt2, Nat.le_refl _, by go_num, by rw [hmo.out, if_neg (by simp)]⟩
          · have hgt' : decide ((G : Int) < (ss[j].size : Int)) = false := by rw [decide_eq_false_iff_not]; omega
            go_wp2_with fail
            have hJ2 := HJ2.out
            go_roundg (ss.length - (j + 1))
            case measure => omega
            case rel => exact ⟨rfl, j + 1, hlt2, Nat.le_refl _, by go_num, by rw [hmo.out, if_neg (fun h => hgt h.1)]⟩
        · obtain rfl : j = ss.length := by omega
          have hK := HK.out
          rw [List.take_length, ← hsn.out]
          go_wp2_with fail
          have hJ := HJ.out
          go_roundg (ys.length - (k + 1))
          case measure => omega
          case rel => exact ⟨rfl, k + 1, hlt, Nat.le_refl _, by go_num, rfl⟩
    · obtain rfl : k = ys.length := by omega
      rw [List.take_length]
      go_wp2_with fail
      go_ret
      exact ⟨rfl, rfl⟩
end Go.Proofs.Qxb6000411a
