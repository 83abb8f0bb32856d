/-
  The functions of the law of the carry that only read, by their contracts.
-/
import Derived.Test.Qxb6600637aMem
import Derived.Deep.OwnRows
import Derived.Laws.OwnMore
namespace Go.Proofs.Qxb6600637a
open Go.RowKit Go.Maps
set_option linter.unusedVariables false

theorem and32 (n : Int) : bits .and .i64 n 4294967295 = n % 4294967296 := by
  have key : ((BitVec.ofInt 64 n) &&& (BitVec.ofInt 64 4294967295)).toNat = (n % 4294967296).toNat := by
    have hm : (BitVec.ofInt 64 4294967295).toNat = 2 ^ 32 - 1 := by decide
    rw [BitVec.toNat_and, BitVec.toNat_ofInt, hm, Nat.and_two_pow_sub_one_eq_mod]
    omega
  show IntKind.i64.wrap (((BitVec.ofInt 64 n) &&& (BitVec.ofInt 64 4294967295)).toNat : Int) = _
  rw [key, IntKind.wrap_i64]
  omega

/-- The numbers of a slice that came in. -/
def NS (w : World) (ao : Option Addr) (l : List Int) : Prop :=
  l = [] ∨ ∃ b off, ao = some ⟨b, off, none⟩ ∧ b < w.heap.size ∧ ∀ i, i < l.length → w.cell? ⟨b, off + i, none⟩ = some (.int .i64 (l.getD i 0))

/-- What the law asks of its digits. -/
def Prem (l : List Int) (f t : Int) : Prop :=
  ∀ i : Nat, i < l.length → -4611686018427387904 ≤ l.getD i 0 ∧ l.getD i 0 ≤ 4611686018427387904 ∧
    (i + 1 < l.length → ((i : Int) < f ∨ t < (i : Int)) → 0 ≤ l.getD i 0 ∧ l.getD i 0 < 4294967296)

set_option maxRecDepth 100000 in
set_option maxHeartbeats 1000000 in
theorem zzBytes15 (w : World) (ao : Option Addr) (n cap : Nat) (f t : Int) (hn : n ≤ maxLen) :
    Calls Try.prog 15 #[.slice ao n cap, .int .i64 f, .int .i64 t] w fun e w' => ∃ b : Bool, e = .returned (.bool b) ∧ w' = w := by
  unfold maxLen at hn
  go_enter Try.func15, Try.ntmps15
  go_wp2_with fail
  all_goals (go_ret; exact ⟨_, rfl, rfl⟩)

set_option maxRecDepth 100000 in
set_option maxHeartbeats 4000000 in
theorem premise16 (w : World) (ao : Option Addr) (cap : Nat) (l : List Int) (f t : Int) (hv : NS w ao l) (hlen : l.length ≤ 65536) :
    Calls Try.prog 16 #[.slice ao l.length cap, .int .i64 f, .int .i64 t] w fun e w' => (e = .returned (.bool false) ∧ w' = w) ∨ (e = .returned (.bool true) ∧ w' = w ∧ Prem l f t) := by
  go_enter Try.func16, Try.ntmps16
  go_wp2_with fail
  go_loopg [8] l.length (fun m i wr => wr = w ∧ ∃ k : Nat, k ≤ l.length ∧ l.length - k ≤ m ∧ i = .int .i64 k ∧
    ∀ j : Nat, j < k → -4611686018427387904 ≤ l.getD j 0 ∧ l.getD j 0 ≤ 4611686018427387904 ∧ (j + 1 < l.length → ((j : Int) < f ∨ t < (j : Int)) → 0 ≤ l.getD j 0 ∧ l.getD j 0 < 4294967296))
  case atStart => exact ⟨rfl, 0, Nat.zero_le _, Nat.le_refl _, rfl, fun j h => absurd h (Nat.not_lt_zero _)⟩
  case round =>
    rename_i J K hJ hK
    have HJ := keep hJ
    obtain ⟨rfl, k, hk, hkm, rfl, hall⟩ := hrel
    have Hall := keep hall
    clear hall
    by_cases hlt : k < l.length
    · obtain ⟨b, off, rfl, _, hc⟩ : ∃ b off, ao = some ⟨b, off, none⟩ ∧ b < wr.heap.size ∧ ∀ i, i < l.length → wr.cell? ⟨b, off + i, none⟩ = some (.int .i64 (l.getD i 0)) := by
        rcases hv with rfl | h
        · simp at hlt
        · exact h
      have hck := hc k hlt
      have hg : Hid (l.getD k 0 = l.getD k 0) := keep rfl
      clear hc hv
      have hlt' : (k : Int) ≤ (l.length : Int) - 1 := by omega
      obtain ⟨x, hx⟩ : ∃ x, l.getD k 0 = x := ⟨_, rfl⟩
      rw [hx] at hck
      have Hx := keep hx
      clear hx hg
      go_wp2_with fail
      all_goals first
        | (go_ret; exact .inl ⟨rfl, rfl⟩)
        | (have hJ := HJ.out
           go_roundg (l.length - (k + 1))
           (case measure => omega)
           (case rel =>
             refine ⟨rfl, k + 1, by omega, by omega, by go_num, ?_⟩
             intro j hj
             by_cases hjk : j = k
             · subst hjk
               rw [Hx.out]
               clear hJ
               refine ⟨by omega, by omega, fun h1 h2 => ?_⟩
               constructor <;> omega
             · exact Hall.out j (by omega)))
    · have : (l.length : Int) - 1 < (k : Int) := by omega
      go_wp2_with fail
      go_ret
      exact .inr ⟨rfl, rfl, fun j hj => Hall.out j (by omega)⟩


theorem clone_put (l : List Int) (k : Nat) (h : k < l.length) : (l.take k ++ List.replicate (l.length - k) 0).set k (l.getD k 0) = l.take (k + 1) ++ List.replicate (l.length - (k + 1)) 0 := by
  rw [List.set_append_right _ _ (by simp; omega)]
  rw [show k - (l.take k).length = 0 by simp; omega, show l.length - k = (l.length - (k + 1)) + 1 by omega, List.replicate_succ, List.set_cons_zero]
  have e : l.take (k + 1) = l.take k ++ [l.getD k 0] := by rw [List.take_succ_eq_append_getElem h]; simp [List.getD_eq_getElem?_getD, h]
  rw [e, List.append_assoc]
  rfl

theorem run_eql_nil {P : Program} (w : World) (t e : TypeId) (a : Option Addr) (n c n' c' : Nat) (h : P.underlying t = some (.slice e)) :
    (binOp .eql t (.slice a n c) (.slice none n' c')).run P w = .ok (.bool a.isNone) w := by
  simp only [binOp]
  simp [Op.equal, Op.maxDepth, Lib.run_equalIn_slice_nil w 9999 t e a n c n' c' h]

theorem info2 : (Try.prog.info? 2).map (fun i => (i.zero, i.size, i.bytes)) = some (some (.int .i64 0), 1, 8) := by kernel_rfl

set_option maxRecDepth 100000 in
set_option maxHeartbeats 4000000 in
theorem clone17 (w : World) (b off cap : Nat) (l : List Int) (hb : b < w.heap.size) (hc : ∀ i, i < l.length → w.cell? ⟨b, off + i, none⟩ = some (.int .i64 (l.getD i 0))) (hlen : l.length ≤ 65536) :
    Calls Try.prog 17 #[.slice (some ⟨b, off, none⟩) l.length cap] w fun e w' => e = .returned (.slice (some ⟨w.heap.size, 0, none⟩) l.length l.length) ∧ IR w' w.heap.size l.length l ∧ Below w.heap.size w w' := by
  have hmk := run_make_row' (P := Try.prog) 32 2 (.int .i64 0) 8 Try.underlying32 info2 rfl .i64 .i64 l.length (by omega) (by omega)
  have heq := fun (w : World) (a : Option Addr) (n c : Nat) => run_eql_nil (P := Try.prog) w 32 2 a n c 0 0 Try.underlying32
  go_enter Try.func17, Try.ntmps17
  go_wp2_with fail
  have hrw := Row.made w 2 (madeCells #[.int .i64 0] l.length) (by rw [size_madeCells]; unfold maxLen; simp; omega)
  rw [toList_madeCells_one, size_madeCells] at hrw
  have hX : Hid (IR (w.alloc (.cells (madeCells #[.int .i64 0] l.length) 2)) w.heap.size l.length (l.take 0 ++ List.replicate l.length 0)) := by
    show IR _ _ _ _
    unfold IR
    simpa using hrw
  clear hrw hmk heq
  have hbw : Below w.heap.size w (w.alloc (.cells (madeCells #[.int .i64 0] l.length) 2)) := (Below.refl _ _).alloc (Nat.le_refl _) _
  go_loopg [4] l.length (fun m i wr => ∃ k : Nat, k ≤ l.length ∧ l.length - k ≤ m ∧ i = .int .i64 k ∧ Below w.heap.size w wr ∧ IR wr w.heap.size l.length (l.take k ++ List.replicate (l.length - k) 0))
  case atStart => exact ⟨0, Nat.zero_le _, Nat.le_refl _, rfl, hbw, hX.out⟩
  case round =>
    rename_i J K hJ hK
    have HJ := keep hJ
    have HK := keep hK
    clear hJ hK hbw hX
    obtain ⟨k, hk, hkm, rfl, hbw, hrow⟩ := hrel
    by_cases hlt : k < l.length
    · have hck := hbw.cell (p := ⟨b, off + k, none⟩) hb
      rw [hc k hlt] at hck
      have hold := hrow.at (i := k) (by simp; omega)
      have hfr := hrow.free k
      have hput := keep (hrow.put k (l.getD k 0))
      have Hbw := keep hbw
      rw [clone_put l k hlt] at hput
      clear hrow hbw hc
      generalize l.getD k 0 = x at hck hput
      have hlt' : (k : Int) < (l.length : Int) := by omega
      have hK := HK.out
      go_wp2_with fail
      have hJ := HJ.out
      go_roundg (l.length - (k + 1))
      case measure => omega
      case rel => exact ⟨k + 1, by omega, by omega, by go_num, Hbw.out.setCell (Nat.le_refl _) _, hput.out⟩
    · have hkl : k = l.length := by omega
      subst hkl
      have Hrow := keep hrow
      clear hrow hc
      go_wp2_with fail
      go_ret
      exact ⟨rfl, by simpa using Hrow.out, hbw⟩

/-- The form that the carry must leave. -/
def Carried (l : List Int) : Prop :=
  (∀ i : Nat, i + 1 < l.length → 0 ≤ l.getD i 0 ∧ l.getD i 0 < 4294967296) ∧
  (l ≠ [] → -2147483648 ≤ l.getD (l.length - 1) 0 ∧ l.getD (l.length - 1) 0 < 2147483648) ∧
  (l.length = 1 → l.getD 0 0 ≠ 0) ∧
  (2 ≤ l.length → ¬ (l.getD (l.length - 1) 0 = 0 ∧ l.getD (l.length - 2) 0 < 2147483648) ∧ ¬ (l.getD (l.length - 1) 0 = -1 ∧ 2147483648 ≤ l.getD (l.length - 2) 0))

set_option maxRecDepth 100000 in
set_option maxHeartbeats 4000000 in
theorem carried19 (w : World) (g cap n : Nat) (l : List Int) (hn : n = l.length) (hrow : IR w g cap l) (hlen : l.length ≤ 131072) (hC : Carried l) :
    Calls Try.prog 19 #[.slice (some ⟨g, 0, none⟩) n cap] w fun e w' => e = .returned (.bool true) ∧ w' = w := by
  have Hrow := keep hrow
  have HC := keep hC
  have Hn := keep hn
  have hn2 : n ≤ 131072 := by omega
  clear hrow hC
  go_enter Try.func19, Try.ntmps19
  by_cases h0 : n = 0
  · subst h0
    clear hn
    go_wp2_with fail
    go_ret
    exact ⟨rfl, rfl⟩
  · have hne : ((n : Int) == 0) = false := by rw [beq_eq_false_iff_ne]; omega
    clear hn
    go_wp2_with fail
    go_loopg [4] n (fun m i wr => wr = w ∧ ∃ k : Nat, k + 1 ≤ n ∧ n - k ≤ m ∧ i = .int .i64 k)
    case atStart => exact ⟨rfl, 0, by omega, Nat.le_refl _, rfl⟩
    case round =>
      rename_i J K hJ hK
      have HJ := keep hJ
      have HK := keep hK
      clear hJ hK
      obtain ⟨rfl, k, hk, hkm, rfl⟩ := hrel
      by_cases hlt : k + 1 < n
      · have hlt' : (k : Int) < (n : Int) - 1 := by omega
        have hck := Hrow.out.at (i := k) (by have := Hn.out; omega)
        obtain ⟨hx1, hx2⟩ := HC.out.1 k (by have := Hn.out; omega)
        generalize l.getD k 0 = x at hck hx1 hx2
        have hK := HK.out
        go_wp2_with fail
        have hJ := HJ.out
        go_roundg (n - (k + 1))
        case measure => omega
        case rel => exact ⟨rfl, k + 1, by omega, by omega, by go_num⟩
      · have hkn : (n : Int) - 1 = (k : Int) := by omega
        have hl1 : ((n : Int) - 1 < (n : Int)) := by omega
        have hnk : n - 1 = k := by omega
        have hnl := Hn.out
        have hck := Hrow.out.at (i := k) (by omega)
        have h2 := HC.out.2.1 (by intro h; subst h; simp at hnl; omega)
        rw [← hnl, hnk] at h2
        obtain ⟨hy1, hy2⟩ := h2
        by_cases hn1 : n = 1
        · have h3 := HC.out.2.2.1 (by omega)
          obtain rfl : k = 0 := by omega
          subst hn1
          generalize l.getD 0 0 = y at hck hy1 hy2 h3
          have h3' : (y == 0) = false := by rw [beq_eq_false_iff_ne]; exact h3
          clear hnl
          go_wp2_with fail
          all_goals (go_ret; exact ⟨by simp [h3], rfl⟩)
        · have h4 := HC.out.2.2.2 (by omega)
          rw [← hnl, hnk] at h4
          have hcb := Hrow.out.at (i := n - 2) (by omega)
          generalize l.getD k 0 = y at hck hy1 hy2 h4
          generalize l.getD (n - 2) 0 = z at hcb h4
          obtain ⟨q, rfl⟩ : ∃ q, n = q + 2 := ⟨n - 2, by omega⟩
          obtain rfl : k = q + 1 := by omega
          clear hnl hnk hkn hl1 hlt hne h0
          have e1 : ((q + 2 : Nat) : Int) - 1 = ((q + 1 : Nat) : Int) := by omega
          have e2 : ((q + 2 : Nat) : Int) - 2 = (q : Int) := by omega
          have e3 : (((q + 2 : Nat) : Int) == 1) = false := by rw [beq_eq_false_iff_ne]; omega
          simp only [Nat.add_sub_cancel] at hcb
          by_cases hy0 : y = 0
          · subst hy0
            have hz : 2147483648 ≤ z := by have := h4.1; omega
            clear h4
            go_wp2_with fail
            all_goals (go_ret; exact ⟨rfl, rfl⟩)
          · by_cases hy9 : y = -1
            · subst hy9
              have hz : z < 2147483648 := by have := h4.2; omega
              clear h4
              go_wp2_with fail
              all_goals (go_ret; exact ⟨rfl, rfl⟩)
            · clear h4
              have k1 : (y == 0) = false := by rw [beq_eq_false_iff_ne]; exact hy0
              have k2 : (y == -1) = false := by rw [beq_eq_false_iff_ne]; exact hy9
              go_wp2_with fail
              all_goals (go_ret; exact ⟨rfl, rfl⟩)

end Go.Proofs.Qxb6600637a
