/-
  'equal' and the functions that only count, by their contracts.
-/
import Derived.Test.Qxb6600637aRows
import Derived.WalkKit
import Derived.WalkSpells
import Derived.WalkLawsBesides
import Derived.BigQuiet
import Derived.Deep.QuietTactic
import Derived.Below
import Derived.Deep.LoopGhost
namespace Go.Proofs.Qxb6600637a
open Go.RowKit
set_option linter.unusedVariables false

theorem keep {p : Prop} (h : p) : Hid p := h

/-- A slice of strings that came in. -/
def SC (w : World) (ao : Option Addr) (ss : List ByteArray) : Prop :=
  ss = [] ∨ ∃ b off, ao = some ⟨b, off, none⟩ ∧ b < w.heap.size ∧ ∀ i (h : i < ss.length), w.cell? ⟨b, off + i, none⟩ = some (.string ss[i])

set_option maxRecDepth 100000 in
set_option maxHeartbeats 1000000 in
theorem stringsBytes_any (w : World) (ao : Option Addr) (cap : Nat) (ss : List ByteArray) (hv : SC w ao ss) (hlen : ss.length ≤ 65536) :
    Calls Try.prog 11 #[.slice ao ss.length cap] w fun e w' => ∃ r : Int, e = .returned (.int .i64 r) ∧ w' = w ∧ 0 ≤ r ∧ r ≤ 2097168 := by
  go_enter Try.func11, Try.ntmps11
  go_wp2_with fail
  go_loopg [3, 4] ss.length (fun m n i wr => wr = w ∧ (∃ x : Int, 0 ≤ x ∧ x ≤ 1048576 ∧ n = .int .i64 x) ∧ ∃ k : Nat, k ≤ ss.length ∧ ss.length - k ≤ m ∧ i = .int .i64 k)
  case atStart => exact ⟨rfl, ⟨0, by decide, by decide, rfl⟩, 0, Nat.zero_le _, Nat.le_refl _, rfl⟩
  case round =>
    rename_i J K hJ hK
    have HJ := keep hJ
    obtain ⟨rfl, ⟨x, hx1, hx2, rfl⟩, k, hk, hkm, rfl⟩ := hrel
    by_cases hlt : k < ss.length
    · obtain ⟨b, off, rfl, _, hc⟩ : ∃ b off, ao = some ⟨b, off, none⟩ ∧ b < wr.heap.size ∧ ∀ i (h : i < ss.length), wr.cell? ⟨b, off + i, none⟩ = some (.string ss[i]) := by
        rcases hv with rfl | h
        · simp at hlt
        · exact h
      have hck := hc k hlt
      clear hc hv
      have hlt' : (k : Int) < (ss.length : Int) := by omega
      generalize ss[k] = s at *
      go_wp2_with fail
      all_goals first
        | (go_ret; exact ⟨_, rfl, rfl, by omega, by omega⟩)
        | (have hJ := HJ.out; go_roundg (ss.length - (k + 1)); (case measure => omega); (case rel => exact ⟨rfl, ⟨x + (16 + (s.size : Int)), by omega, by omega, by go_num⟩, k + 1, by omega, by omega, by go_num⟩))
    · go_wp2_with fail
      go_ret
      exact ⟨_, rfl, rfl, by omega, by omega⟩

set_option maxRecDepth 100000 in
set_option maxHeartbeats 2000000 in
theorem zzBytes14 (w : World) (k : Int) (s1 s2 : ByteArray) (f1 f2 : Nat) (b1 b2 : Bool) (ao ao2 : Option Addr) (cap cap2 : Nat) (ss ss2 : List ByteArray) (hv : SC w ao ss) (hv2 : SC w ao2 ss2) (hlen : ss.length ≤ maxLen) (hlen2 : ss2.length ≤ maxLen) (h1 : s1.size ≤ maxLen) (h2 : s2.size ≤ maxLen) :
    Calls Try.prog 14 #[.int .u8 k, .string s1, .float .f64 f1, .bool b1, .slice ao ss.length cap, .string s2, .float .f64 f2, .bool b2, .slice ao2 ss2.length cap2] w fun e w' => ∃ b : Bool, e = .returned (.bool b) ∧ w' = w := by
  unfold maxLen at hlen hlen2 h1 h2
  go_enter Try.func14, Try.ntmps14
  go_wp2_with fail
  all_goals first
    | (go_ret; exact ⟨_, rfl, rfl⟩)
    | skip
  go_loopg [19, 20] ss.length (fun m n i wr => wr = w ∧ (∃ x, n = .int .i64 x) ∧ ∃ k : Nat, k ≤ ss.length ∧ ss.length - k ≤ m ∧ i = .int .i64 k)
  case atStart => exact ⟨rfl, ⟨_, rfl⟩, 0, Nat.zero_le _, Nat.le_refl _, rfl⟩
  case round =>
    obtain ⟨rfl, ⟨x, rfl⟩, k, hk, hkm, rfl⟩ := hrel
    by_cases hlt : k < ss.length
    · obtain ⟨b, off, rfl, _, hc⟩ : ∃ b off, ao = some ⟨b, off, none⟩ ∧ b < wr.heap.size ∧ ∀ i (h : i < ss.length), wr.cell? ⟨b, off + i, none⟩ = some (.string ss[i]) := by
        rcases hv with rfl | h
        · simp at hlt
        · exact h
      have hck := hc k hlt
      clear hc hv hv2
      have hlt' : (k : Int) < (ss.length : Int) := by omega
      go_wp2_with fail
      all_goals first
        | (go_ret; exact ⟨_, rfl, rfl⟩)
        | (go_roundg (ss.length - (k + 1)); (case measure => omega); (case rel => exact ⟨rfl, ⟨_, rfl⟩, k + 1, by omega, by omega, by go_num⟩))
    · clear hv
      go_wp2_with fail
      all_goals first
        | (go_ret; exact ⟨_, rfl, rfl⟩)
        | skip
      go_loopg [19, 21] ss2.length (fun m n i wx => wx = wr ∧ (∃ x, n = .int .i64 x) ∧ ∃ k : Nat, k ≤ ss2.length ∧ ss2.length - k ≤ m ∧ i = .int .i64 k)
      case atStart => exact ⟨rfl, ⟨_, rfl⟩, 0, Nat.zero_le _, Nat.le_refl _, rfl⟩
      case round =>
        obtain ⟨rfl, ⟨x2, rfl⟩, k2, hk2, hkm2, rfl⟩ := hrel
        by_cases hlt2 : k2 < ss2.length
        · obtain ⟨b, off, rfl, _, hc⟩ : ∃ b off, ao2 = some ⟨b, off, none⟩ ∧ b < wr.heap.size ∧ ∀ i (h : i < ss2.length), wr.cell? ⟨b, off + i, none⟩ = some (.string ss2[i]) := by
            rcases hv2 with rfl | h
            · simp at hlt2
            · exact h
          have hck := hc k2 hlt2
          clear hc hv2
          have hlt' : (k2 : Int) < (ss2.length : Int) := by omega
          go_wp2_with fail
          all_goals first
            | (go_ret; exact ⟨_, rfl, rfl⟩)
            | (go_roundg (ss2.length - (k2 + 1)); (case measure => omega); (case rel => exact ⟨rfl, ⟨_, rfl⟩, k2 + 1, by omega, by omega, by go_num⟩))
        · clear hv2
          go_wp2_with fail
          all_goals (go_ret; exact ⟨_, rfl, rfl⟩)

/-- A Value of the program. -/
def val (k : Int) (s : ByteArray) (f : Nat) (b : Bool) (ao : Option Addr) (n cap : Nat) : Value := .agg #[.int .u8 k, .string s, .float .f64 f, .bool b, .slice ao n cap]

set_option maxRecDepth 100000 in
set_option maxHeartbeats 2000000 in
theorem mkValue_any (w : World) (k : Int) (s : ByteArray) (f : Nat) (b : Bool) (ao : Option Addr) (n cap : Nat) :
    Calls Try.prog 12 #[.int .u8 k, .string s, .float .f64 f, .bool b, .slice ao n cap] w fun e w' => e = .returned (val k s f b ao n cap) ∧ Below w.heap.size w w' := by
  unfold val
  have hst := fun (w : World) (a : Addr) (m : Mode) => run_store Try.prog w a (.float .f64 f) m rfl
  go_enter Try.func12, Try.ntmps12
  go_wp2_with fail
  refine bodyPost_ret (v := .agg #[.int .u8 k, .string s, .float .f64 f, .bool b, .slice ao n cap]) (by simp [results, Try.results12, go_sem]) rfl ⟨rfl, (Below.refl _ _).alloc (Nat.le_refl _) _⟩

set_option maxRecDepth 100000 in
set_option maxHeartbeats 2000000 in
theorem equal_str (w : World) (s : ByteArray) (f f2 : Nat) (b b2 : Bool) (ao ao2 : Option Addr) (n n2 cap cap2 : Nat) :
    Calls Try.prog 33 #[val 1 s f b ao n cap, val 1 s f2 b2 ao2 n2 cap2] w fun e w' => e = .returned (.bool true) ∧ Below w.heap.size w w' := by
  unfold val
  go_enter Try.func33, Try.ntmps33
  go_wp2_with fail
  go_ret
  exact ⟨rfl, ((Below.refl _ _).alloc (Nat.le_refl _) _).alloc (by rw [World.size_alloc]; omega) _⟩

set_option maxRecDepth 100000 in
set_option maxHeartbeats 2000000 in
theorem equal_num (w : World) (s s2 : ByteArray) (f : Nat) (b b2 : Bool) (ao ao2 : Option Addr) (n n2 cap cap2 : Nat) :
    Calls Try.prog 33 #[val 2 s f b ao n cap, val 2 s2 f b2 ao2 n2 cap2] w fun e w' => e = .returned (.bool (FloatKind.f64.format.order f f == some Ordering.eq)) ∧ Below w.heap.size w w' := by
  unfold val
  go_enter Try.func33, Try.ntmps33
  go_wp2_with fail
  go_ret
  exact ⟨rfl, ((Below.refl _ _).alloc (Nat.le_refl _) _).alloc (by rw [World.size_alloc]; omega) _⟩

set_option maxRecDepth 100000 in
set_option maxHeartbeats 2000000 in
theorem equal_bool (w : World) (s s2 : ByteArray) (f f2 : Nat) (b : Bool) (ao ao2 : Option Addr) (n n2 cap cap2 : Nat) :
    Calls Try.prog 33 #[val 3 s f b ao n cap, val 3 s2 f2 b ao2 n2 cap2] w fun e w' => e = .returned (.bool true) ∧ Below w.heap.size w w' := by
  unfold val
  go_enter Try.func33, Try.ntmps33
  go_wp2_with fail
  go_ret
  exact ⟨by simp, ((Below.refl _ _).alloc (Nat.le_refl _) _).alloc (by rw [World.size_alloc]; omega) _⟩

theorem below_drewN {w w' : World} (h : Below w.heap.size w w') (n : Nat) : Below w.heap.size w (w'.drewN n) :=
  h.grown (row := none) (w' := w'.drewN n) ⟨rfl, rfl, rfl, Nat.le_refl _, fun _ _ _ => rfl⟩ h.size (fun k e => by cases e)

set_option maxRecDepth 100000 in
set_option maxHeartbeats 2000000 in
theorem equal_list (w : World) (k : Int) (h1 : k ≠ 1) (h2 : k ≠ 2) (h3 : k ≠ 3) (s s2 : ByteArray) (f f2 : Nat) (b b2 : Bool) (ao : Option Addr) (ss : List ByteArray) (cap : Nat) (hv : SC w ao ss) (hlen : ss.length ≤ 65536) :
    Calls Try.prog 33 #[val k s f b ao ss.length cap, val k s2 f2 b2 ao ss.length cap] w fun e w' => e = .returned (.bool true) ∧ Below w.heap.size w w' := by
  unfold val
  have k1 : (k == 1) = false := by rw [beq_eq_false_iff_ne]; exact h1
  have k2 : (k == 2) = false := by rw [beq_eq_false_iff_ne]; exact h2
  have k3 : (k == 3) = false := by rw [beq_eq_false_iff_ne]; exact h3
  clear h1 h2 h3
  have Hv := keep hv
  clear hv
  go_enter Try.func33, Try.ntmps33
  go_wp2_with fail
  generalize hW : ((w.alloc (Obj.cells #[Value.int .u8 k, .string s, .float .f64 f, .bool b, .slice ao ss.length cap] 28)).alloc (Obj.cells #[Value.int .u8 k, .string s2, .float .f64 f2, .bool b2, .slice ao ss.length cap] 28)) = W
  have hb : Hid (Below w.heap.size w W) := by
    show Below _ _ _
    rw [← hW]
    exact ((Below.refl _ _).alloc (Nat.le_refl _) _).alloc (by rw [World.size_alloc]; omega) _
  have c1 : W.cell? ⟨w.heap.size, 4, none⟩ = some (.slice ao ss.length cap) := by rw [← hW]; simp
  have c2 : W.cell? ⟨w.heap.size + 1, 4, none⟩ = some (.slice ao ss.length cap) := by rw [← hW]; simp
  clear hW
  go_loopg [44] ss.length (fun m i wr => (∃ q, wr = W.drewN q) ∧ ∃ j : Nat, j ≤ ss.length ∧ ss.length - j ≤ m ∧ i = .int .i64 j)
  case atStart => exact ⟨⟨0, rfl⟩, 0, Nat.zero_le _, Nat.le_refl _, rfl⟩
  case round =>
    rename_i J K hJ hK
    have HJ := keep hJ
    have HK := keep hK
    clear hJ hK
    obtain ⟨⟨q, rfl⟩, j, hj, hjm, rfl⟩ := hrel
    by_cases hlt : j < ss.length
    · obtain ⟨bb, off, rfl, hbl, hc⟩ : ∃ b off, ao = some ⟨b, off, none⟩ ∧ b < w.heap.size ∧ ∀ i (h : i < ss.length), w.cell? ⟨b, off + i, none⟩ = some (.string ss[i]) := by
        rcases Hv.out with rfl | h
        · simp at hlt
        · exact h
      have hck : W.cell? ⟨bb, off + j, none⟩ = some (.string ss[j]) := by rw [hb.out.cell (p := ⟨bb, off + j, none⟩) hbl]; exact hc j hlt
      clear hc
      have hlt' : (j : Int) < (ss.length : Int) := by omega
      generalize ss[j] = x at *
      have d1 : (W.drewN q).cell? ⟨w.heap.size, 4, none⟩ = some (.slice (some ⟨bb, off, none⟩) ss.length cap) := c1
      have d2 : (W.drewN q).cell? ⟨w.heap.size + 1, 4, none⟩ = some (.slice (some ⟨bb, off, none⟩) ss.length cap) := c2
      have d3 : (W.drewN q).cell? ⟨bb, off + j, none⟩ = some (.string x) := hck
      go_wp2_with fail
      go_quiet (fail)
      have hK := HK.out
      go_wp2_with fail
      have hJ := HJ.out
      go_roundg (ss.length - (j + 1))
      case measure => omega
      case rel => exact ⟨⟨_, rfl⟩, j + 1, hlt, Nat.le_refl _, by go_num⟩
    · go_wp2_with fail
      go_ret
      exact ⟨rfl, below_drewN hb.out q⟩
end Go.Proofs.Qxb6600637a
