/-
  'sameValue' by its contract.
-/
import Derived.Test.Qxb6600637aCarry1
namespace Go.Proofs.Qxb6600637a
open Go.RowKit Go.Maps
set_option linter.unusedVariables false

set_option maxRecDepth 100000 in
set_option maxHeartbeats 4000000 in
theorem same20 (w : World) (g g2 cap cap2 n n2 : Nat) (l l2 : List Int) (hn : n = l.length) (hn2 : n2 = l2.length) (hrow : IR w g cap l) (hrow2 : IR w g2 cap2 l2) (hlen : n ≤ 131072) (hlen2 : n2 ≤ 131072)
    (hb : ∀ i : Nat, -4611686018427387904 ≤ l.getD i 0 ∧ l.getD i 0 ≤ 4611686018427387904) (hb2 : ∀ i : Nat, -2147483648 ≤ l2.getD i 0 ∧ l2.getD i 0 ≤ 4294967296) (hvl : vl l = vl l2) :
    Calls Try.prog 20 #[.slice (some ⟨g, 0, none⟩) n cap, .slice (some ⟨g2, 0, none⟩) n2 cap2] w fun e w' => e = .returned (.bool true) ∧ w' = w := by
  have Hrow := keep hrow
  have Hrow2 := keep hrow2
  have Hb := keep hb
  have Hb2 := keep hb2
  have Hvl := keep hvl
  have Hn := keep hn
  have Hn2 := keep hn2
  clear hrow hrow2 hb hb2 hvl hn hn2
  have hD1 : ∀ k, n ≤ k → l.getD k 0 = 0 := fun k hk => by have := Hn.out; simp [List.getD_eq_getElem?_getD, List.getElem?_eq_none (show l.length ≤ k by omega)]
  have hD2 : ∀ k, n2 ≤ k → l2.getD k 0 = 0 := fun k hk => by have := Hn2.out; simp [List.getD_eq_getElem?_getD, List.getElem?_eq_none (show l2.length ≤ k by omega)]
  have HD1 := keep hD1
  have HD2 := keep hD2
  clear hD1 hD2
  go_enter Try.func20, Try.ntmps20
  by_cases hnn : n < n2
  · have hnn' : ((n : Int) < (n2 : Int)) := by omega
    go_wp2_with fail
    go_loopg [6, 7] n2 (fun m c i wr => wr = w ∧ ∃ (k : Nat) (z : Int), k ≤ n2 ∧ n2 - k ≤ m ∧ i = .int .i64 k ∧ c = .int .i64 z ∧ -2147483648 ≤ z ∧ z ≤ 2147483648 ∧ z + vl (l.drop k) = vl (l2.drop k))
    case atStart => exact ⟨rfl, 0, 0, Nat.zero_le _, Nat.le_refl _, rfl, rfl, by decide, by decide, by have := Hvl.out; simpa using this⟩
    case round =>
      rename_i J K hJ hK
      have HJ := keep hJ
      have HK := keep hK
      clear hJ hK
      obtain ⟨rfl, k, z, hk, hkm, rfl, rfl, hz1, hz2, hzv⟩ := hrel
      have Hzv := keep hzv
      clear hzv
      by_cases hlt : k < n2
      · have hlt' : (k : Int) < (n2 : Int) := by omega
        obtain ⟨hx1, hx2⟩ := Hb.out k
        obtain ⟨hy1, hy2⟩ := Hb2.out k
        obtain ⟨hr1, hr2⟩ := same_round l l2 k z Hzv.out
        have hcx := fun h : k < n => Hrow.out.at (i := k) (by have := Hn.out; omega)
        have hcy := fun h : k < n2 => Hrow2.out.at (i := k) (by have := Hn2.out; omega)
        have h0x := HD1.out k
        have h0y := HD2.out k
        generalize l.getD k 0 = x at *
        generalize l2.getD k 0 = y at *
        have Hr2 := keep hr2
        clear hr2
        have hr1' : bits .and .i64 (z + x - y) 4294967295 = 0 := by rw [and32]; exact hr1
        by_cases hkn : k < n
        · have hkn' : (k : Int) < (n : Int) := by omega
          have hcx := hcx hkn
          clear h0x
          by_cases hkn2 : k < n2
          · have hkn2' : (k : Int) < (n2 : Int) := by omega
            have hcy := hcy hkn2
            clear h0y
            have hK := HK.out
            go_wp2_with fail
            have hJ := HJ.out
            go_roundg (n2 - (k + 1))
            case measure => omega
            case rel => exact ⟨rfl, k + 1, (z + x - y) / 4294967296, by omega, by omega, by go_num, by go_num, by omega, by omega, Hr2.out⟩
          · exact absurd hlt hkn2
        · have hkn' : (n : Int) ≤ (k : Int) := by omega
          obtain rfl := h0x (by omega)
          rw [Int.add_zero] at hr1 hr1' Hr2
          clear hcx
          have hkn2 : k < n2 := by omega
          have hkn2' : (k : Int) < (n2 : Int) := by omega
          have hcy := hcy hkn2
          clear h0y
          have hK := HK.out
          go_wp2_with fail
          have hJ := HJ.out
          go_roundg (n2 - (k + 1))
          case measure => omega
          case rel => exact ⟨rfl, k + 1, (z - y) / 4294967296, by omega, by omega, by go_num, by go_num, by omega, by omega, Hr2.out⟩
      · have hz0 : z = 0 := by
          have := Hzv.out
          rw [List.drop_eq_nil_of_le (by have := Hn.out; omega), List.drop_eq_nil_of_le (by have := Hn2.out; omega)] at this
          simpa [vl] using this
        subst hz0
        have hlt' : (n2 : Int) ≤ (k : Int) := by omega
        have hK := HK.out
        go_wp2_with fail
        go_ret
        exact ⟨rfl, rfl⟩
  · have hnn' : ((n2 : Int) ≤ (n : Int)) := by omega
    go_wp2_with fail
    go_loopg [6, 7] n (fun m c i wr => wr = w ∧ ∃ (k : Nat) (z : Int), k ≤ n ∧ n - k ≤ m ∧ i = .int .i64 k ∧ c = .int .i64 z ∧ -2147483648 ≤ z ∧ z ≤ 2147483648 ∧ z + vl (l.drop k) = vl (l2.drop k))
    case atStart => exact ⟨rfl, 0, 0, Nat.zero_le _, Nat.le_refl _, rfl, rfl, by decide, by decide, by have := Hvl.out; simpa using this⟩
    case round =>
      rename_i J K hJ hK
      have HJ := keep hJ
      have HK := keep hK
      clear hJ hK
      obtain ⟨rfl, k, z, hk, hkm, rfl, rfl, hz1, hz2, hzv⟩ := hrel
      have Hzv := keep hzv
      clear hzv
      by_cases hlt : k < n
      · have hlt' : (k : Int) < (n : Int) := by omega
        obtain ⟨hx1, hx2⟩ := Hb.out k
        obtain ⟨hy1, hy2⟩ := Hb2.out k
        obtain ⟨hr1, hr2⟩ := same_round l l2 k z Hzv.out
        have hcx := fun h : k < n => Hrow.out.at (i := k) (by have := Hn.out; omega)
        have hcy := fun h : k < n2 => Hrow2.out.at (i := k) (by have := Hn2.out; omega)
        have h0x := HD1.out k
        have h0y := HD2.out k
        generalize l.getD k 0 = x at *
        generalize l2.getD k 0 = y at *
        have Hr2 := keep hr2
        clear hr2
        have hr1' : bits .and .i64 (z + x - y) 4294967295 = 0 := by rw [and32]; exact hr1
        by_cases hkn : k < n
        · have hkn' : (k : Int) < (n : Int) := by omega
          have hcx := hcx hkn
          clear h0x
          by_cases hkn2 : k < n2
          · have hkn2' : (k : Int) < (n2 : Int) := by omega
            have hcy := hcy hkn2
            clear h0y
            have hK := HK.out
            go_wp2_with fail
            have hJ := HJ.out
            go_roundg (n - (k + 1))
            case measure => omega
            case rel => exact ⟨rfl, k + 1, (z + x - y) / 4294967296, by omega, by omega, by go_num, by go_num, by omega, by omega, Hr2.out⟩
          · have hkn2' : (n2 : Int) ≤ (k : Int) := by omega
            obtain rfl := h0y (by omega)
            rw [Int.sub_zero] at hr1 hr1' Hr2
            clear hcy
            have hK := HK.out
            go_wp2_with fail
            have hJ := HJ.out
            go_roundg (n - (k + 1))
            case measure => omega
            case rel => exact ⟨rfl, k + 1, (z + x) / 4294967296, by omega, by omega, by go_num, by go_num, by omega, by omega, Hr2.out⟩
        · exact absurd hlt hkn
      · have hz0 : z = 0 := by
          have := Hzv.out
          rw [List.drop_eq_nil_of_le (by have := Hn.out; omega), List.drop_eq_nil_of_le (by have := Hn2.out; omega)] at this
          simpa [vl] using this
        subst hz0
        have hlt' : (n : Int) ≤ (k : Int) := by omega
        have hK := HK.out
        go_wp2_with fail
        go_ret
        exact ⟨rfl, rfl⟩

end Go.Proofs.Qxb6600637a
