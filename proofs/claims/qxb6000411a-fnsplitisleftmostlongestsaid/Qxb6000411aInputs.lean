/-
  A slice of strings that came in; the functions that only count it.
-/
import Derived.Test.Qxb6000411aNew
import Derived.Laws.CopyOwn
namespace Go.Proofs.Qxb6000411a
open Go.RowKit Go.Maps Pl
set_option linter.unusedVariables false

/-- What the walks are told of a slice of strings. -/
structure SV (w : World) (ao : Option Addr) (len cap : Nat) (ss : List ByteArray) : Prop where
  hlen : ss.length = len
  lec : len ≤ cap
  max : cap ≤ maxLen
  nil : ao = none → len = 0 ∧ cap = 0
  cells : ss = [] ∨ ∃ b off, ao = some ⟨b, off, none⟩ ∧ b < w.heap.size ∧ ∀ i (h : i < ss.length), w.cell? ⟨b, off + i, none⟩ = some (.string ss[i])
  sz : ∀ s, s ∈ ss → s.size ≤ maxLen

def szs (ss : List ByteArray) : Nat := sumLen (ss.map bsl)
theorem szs_take {ss : List ByteArray} {k : Nat} (h : k < ss.length) : szs (ss.take (k + 1)) = szs (ss.take k) + ss[k].size := by
  unfold szs
  rw [List.take_succ_eq_append_getElem h, List.map_append, List.map_cons, List.map_nil, sumLen_snoc, bsl_len]

/-- What the counting walks take: empty, or an address and its cells. -/
def SC (w : World) (ao : Option Addr) (ss : List ByteArray) : Prop :=
  ss = [] ∨ ∃ b off, ao = some ⟨b, off, none⟩ ∧ ∀ i (h : i < ss.length), w.cell? ⟨b, off + i, none⟩ = some (.string ss[i])
theorem SV.sc {w : World} {ao : Option Addr} {len cap : Nat} {ss : List ByteArray} (h : SV w ao len cap ss) : SC w ao ss := by
  rcases h.cells with h | ⟨b, off, h1, _, h2⟩
  · exact .inl h
  · exact .inr ⟨b, off, h1, h2⟩

set_option maxRecDepth 100000 in
set_option maxHeartbeats 1000000 in
theorem bytesOf_any (w : World) (ao : Option Addr) (cap : Nat) (ss : List ByteArray) (hv : SC w ao ss) (hlen : ss.length ≤ maxLen) (hsz : ∀ s, s ∈ ss → s.size ≤ maxLen) :
    Calls Try.prog 20 #[.slice ao ss.length cap] w fun e w' => ∃ r : Int, e = .returned (.int .i64 r) ∧ w' = w ∧ 0 ≤ r ∧ r ≤ 1048577 ∧ (r ≤ 1048576 → (16 * ss.length + szs ss : Int) + 24 ≤ r) := by
  unfold maxLen at hlen
  rcases hv with rfl | ⟨b, off, rfl, hc⟩
  · go_enter Try.func20, Try.ntmps20
    go_wp2
    go_loopg [3, 4] 0 (fun m n i wr => wr = w ∧ n = .int .i64 24 ∧ i = .int .i64 0)
    case atStart => exact ⟨rfl, rfl, rfl⟩
    case round =>
      obtain ⟨rfl, rfl, rfl⟩ := hrel
      go_wp2
      go_ret
      exact ⟨24, rfl, rfl, by decide, by decide, fun _ => by decide⟩
  · go_enter Try.func20, Try.ntmps20
    go_wp2
    go_loopg [3, 4] ss.length (fun m n i wr => wr = w ∧ ∃ k : Nat, k ≤ ss.length ∧ ss.length - k ≤ m ∧ i = .int .i64 k ∧ n = .int .i64 (24 + 16 * (k : Int) + (szs (ss.take k) : Int)) ∧ 24 + 16 * k + szs (ss.take k) ≤ 1048576)
    case atStart => exact ⟨rfl, 0, Nat.zero_le _, Nat.le_refl _, rfl, by simp [szs, sumLen], by simp [szs, sumLen]⟩
    case round =>
      obtain ⟨rfl, k, hk, hkm, rfl, rfl, hn⟩ := hrel
      by_cases hlt : k < ss.length
      · have hck := hc k hlt
        have hs := szs_take hlt
        have hmx := hsz _ (List.getElem_mem hlt)
        unfold maxLen at hmx
        have Hs := keep hs
        clear hc hs hsz
        have hlt' : (k : Int) < (ss.length : Int) := by omega
        go_wp2
        all_goals first
          | (go_ret; exact ⟨_, rfl, rfl, by decide, by decide, fun h => by omega⟩)
          | (go_roundg (ss.length - (k + 1)); (case measure => omega); (case rel => exact ⟨rfl, k + 1, by omega, by omega, by go_num, by rw [Hs.out]; go_num, by rw [Hs.out]; omega⟩))
      · obtain rfl : k = ss.length := by omega
        rw [List.take_length] at hn ⊢
        clear hc hsz
        go_wp2
        go_ret
        exact ⟨_, rfl, rfl, by omega, by omega, fun _ => by omega⟩

set_option maxRecDepth 100000 in
set_option maxHeartbeats 1000000 in
theorem lensOf_any (w : World) (ao : Option Addr) (cap : Nat) (ss : List ByteArray) (hv : SC w ao ss) (hlen : ss.length ≤ maxLen) (hsz : ∀ s, s ∈ ss → s.size ≤ maxLen) :
    Calls Try.prog 21 #[.slice ao ss.length cap] w fun e w' => ∃ r : Int, e = .returned (.int .i64 r) ∧ w' = w ∧ 0 ≤ r ∧ r ≤ 1048577 ∧ (r ≤ 1048576 → (szs ss : Int) ≤ r) := by
  unfold maxLen at hlen
  rcases hv with rfl | ⟨b, off, rfl, hc⟩
  · go_enter Try.func21, Try.ntmps21
    go_wp2
    go_loopg [3, 4] 0 (fun m n i wr => wr = w ∧ n = .int .i64 0 ∧ i = .int .i64 0)
    case atStart => exact ⟨rfl, rfl, rfl⟩
    case round =>
      obtain ⟨rfl, rfl, rfl⟩ := hrel
      go_wp2
      go_ret
      exact ⟨0, rfl, rfl, by decide, by decide, fun _ => by decide⟩
  · go_enter Try.func21, Try.ntmps21
    go_wp2
    go_loopg [3, 4] ss.length (fun m n i wr => wr = w ∧ ∃ k : Nat, k ≤ ss.length ∧ ss.length - k ≤ m ∧ i = .int .i64 k ∧ n = .int .i64 (szs (ss.take k) : Int) ∧ szs (ss.take k) ≤ 1048576)
    case atStart => exact ⟨rfl, 0, Nat.zero_le _, Nat.le_refl _, rfl, by simp [szs, sumLen], by simp [szs, sumLen]⟩
    case round =>
      obtain ⟨rfl, k, hk, hkm, rfl, rfl, hn⟩ := hrel
      by_cases hlt : k < ss.length
      · have hck := hc k hlt
        have hs := szs_take hlt
        have hmx := hsz _ (List.getElem_mem hlt)
        unfold maxLen at hmx
        have Hs := keep hs
        clear hc hs hsz
        have hlt' : (k : Int) < (ss.length : Int) := by omega
        go_wp2
        all_goals first
          | (go_ret; exact ⟨_, rfl, rfl, by decide, by decide, fun h => by omega⟩)
          | (go_roundg (ss.length - (k + 1)); (case measure => omega); (case rel => exact ⟨rfl, k + 1, by omega, by omega, by go_num, by rw [Hs.out]; go_num, by rw [Hs.out]; omega⟩))
      · obtain rfl : k = ss.length := by omega
        rw [List.take_length] at hn ⊢
        clear hc hsz
        go_wp2
        go_ret
        exact ⟨_, rfl, rfl, by omega, by omega, fun _ => by omega⟩

set_option maxRecDepth 100000 in
set_option maxHeartbeats 1000000 in
theorem zzBytes19 (w : World) (ao : Option Addr) (cap : Nat) (ss : List ByteArray) (text : ByteArray) (hv : SC w ao ss) (hlen : ss.length ≤ maxLen) (htx : text.size ≤ maxLen) :
    Calls Try.prog 19 #[.slice ao ss.length cap, .string text] w fun e w' => ∃ b : Bool, e = .returned (.bool b) ∧ w' = w := by
  unfold maxLen at hlen htx
  go_enter Try.func19, Try.ntmps19
  go_wp2
  all_goals first
    | (go_ret; exact ⟨_, rfl, rfl⟩)
    | skip
  go_loopg [5, 6] ss.length (fun m n i wr => wr = w ∧ (∃ x, n = .int .i64 x) ∧ ∃ k : Nat, k ≤ ss.length ∧ ss.length - k ≤ m ∧ i = .int .i64 k)
  case atStart => exact ⟨rfl, ⟨_, rfl⟩, 0, Nat.zero_le _, Nat.le_refl _, rfl⟩
  case round =>
    obtain ⟨rfl, ⟨x, rfl⟩, k, hk, hkm, rfl⟩ := hrel
    by_cases hlt : k < ss.length
    · obtain ⟨b, off, rfl, hc⟩ : ∃ b off, ao = some ⟨b, off, none⟩ ∧ ∀ i (h : i < ss.length), wr.cell? ⟨b, off + i, none⟩ = some (.string ss[i]) := by
        rcases hv with rfl | h
        · simp at hlt
        · exact h
      have hck := hc k hlt
      clear hc hv
      have hlt' : (k : Int) < (ss.length : Int) := by omega
      go_wp2
      all_goals first
        | (go_ret; exact ⟨_, rfl, rfl⟩)
        | (go_roundg (ss.length - (k + 1)); (case measure => omega); (case rel => exact ⟨rfl, ⟨_, rfl⟩, k + 1, by omega, by omega, by go_num⟩))
    · clear hv
      go_wp2
      all_goals (go_ret; exact ⟨_, rfl, rfl⟩)
set_option maxRecDepth 100000 in
set_option maxHeartbeats 1000000 in
theorem zzBytes25 (w : World) (ao : Option Addr) (cap : Nat) (ss : List ByteArray) (text : ByteArray) (hv : SC w ao ss) (hlen : ss.length ≤ maxLen) (htx : text.size ≤ maxLen) :
    Calls Try.prog 25 #[.slice ao ss.length cap, .string text] w fun e w' => ∃ b : Bool, e = .returned (.bool b) ∧ w' = w := by
  unfold maxLen at hlen htx
  go_enter Try.func25, Try.ntmps25
  go_wp2
  all_goals first
    | (go_ret; exact ⟨_, rfl, rfl⟩)
    | skip
  go_loopg [5, 6] ss.length (fun m n i wr => wr = w ∧ (∃ x, n = .int .i64 x) ∧ ∃ k : Nat, k ≤ ss.length ∧ ss.length - k ≤ m ∧ i = .int .i64 k)
  case atStart => exact ⟨rfl, ⟨_, rfl⟩, 0, Nat.zero_le _, Nat.le_refl _, rfl⟩
  case round =>
    obtain ⟨rfl, ⟨x, rfl⟩, k, hk, hkm, rfl⟩ := hrel
    by_cases hlt : k < ss.length
    · obtain ⟨b, off, rfl, hc⟩ : ∃ b off, ao = some ⟨b, off, none⟩ ∧ ∀ i (h : i < ss.length), wr.cell? ⟨b, off + i, none⟩ = some (.string ss[i]) := by
        rcases hv with rfl | h
        · simp at hlt
        · exact h
      have hck := hc k hlt
      clear hc hv
      have hlt' : (k : Int) < (ss.length : Int) := by omega
      go_wp2
      all_goals first
        | (go_ret; exact ⟨_, rfl, rfl⟩)
        | (go_roundg (ss.length - (k + 1)); (case measure => omega); (case rel => exact ⟨rfl, ⟨_, rfl⟩, k + 1, by omega, by omega, by go_num⟩))
    · clear hv
      go_wp2
      all_goals (go_ret; exact ⟨_, rfl, rfl⟩)
set_option maxRecDepth 100000 in
set_option maxHeartbeats 2000000 in
theorem zzBytes27 (w : World) (ao ao2 : Option Addr) (cap cap2 : Nat) (ss ss2 : List ByteArray) (text : ByteArray) (hv : SC w ao ss) (hv2 : SC w ao2 ss2) (hlen : ss.length ≤ maxLen) (hlen2 : ss2.length ≤ maxLen) (htx : text.size ≤ maxLen) :
    Calls Try.prog 27 #[.slice ao ss.length cap, .slice ao2 ss2.length cap2, .string text] w fun e w' => ∃ b : Bool, e = .returned (.bool b) ∧ w' = w := by
  unfold maxLen at hlen hlen2 htx
  go_enter Try.func27, Try.ntmps27
  go_wp2
  all_goals first
    | (go_ret; exact ⟨_, rfl, rfl⟩)
    | skip
  go_loopg [7, 8] ss.length (fun m n i wr => wr = w ∧ (∃ x, n = .int .i64 x) ∧ ∃ k : Nat, k ≤ ss.length ∧ ss.length - k ≤ m ∧ i = .int .i64 k)
  case atStart => exact ⟨rfl, ⟨_, rfl⟩, 0, Nat.zero_le _, Nat.le_refl _, rfl⟩
  case round =>
    obtain ⟨rfl, ⟨x, rfl⟩, k, hk, hkm, rfl⟩ := hrel
    by_cases hlt : k < ss.length
    · obtain ⟨b, off, rfl, hc⟩ : ∃ b off, ao = some ⟨b, off, none⟩ ∧ ∀ i (h : i < ss.length), wr.cell? ⟨b, off + i, none⟩ = some (.string ss[i]) := by
        rcases hv with rfl | h
        · simp at hlt
        · exact h
      have hck := hc k hlt
      clear hc hv hv2
      have hlt' : (k : Int) < (ss.length : Int) := by omega
      go_wp2
      all_goals first
        | (go_ret; exact ⟨_, rfl, rfl⟩)
        | (go_roundg (ss.length - (k + 1)); (case measure => omega); (case rel => exact ⟨rfl, ⟨_, rfl⟩, k + 1, by omega, by omega, by go_num⟩))
    · clear hv
      go_wp2
      all_goals first
        | (go_ret; exact ⟨_, rfl, rfl⟩)
        | skip
      go_loopg [7, 9] ss2.length (fun m n i wx => wx = wr ∧ (∃ x, n = .int .i64 x) ∧ ∃ k : Nat, k ≤ ss2.length ∧ ss2.length - k ≤ m ∧ i = .int .i64 k)
      case atStart => exact ⟨rfl, ⟨_, rfl⟩, 0, Nat.zero_le _, Nat.le_refl _, rfl⟩
      case round =>
        obtain ⟨rfl, ⟨x2, rfl⟩, k2, hk2, hkm2, rfl⟩ := hrel
        by_cases hlt2 : k2 < ss2.length
        · obtain ⟨b, off, rfl, hc⟩ : ∃ b off, ao2 = some ⟨b, off, none⟩ ∧ ∀ i (h : i < ss2.length), wr.cell? ⟨b, off + i, none⟩ = some (.string ss2[i]) := by
            rcases hv2 with rfl | h
            · simp at hlt2
            · exact h
          have hck := hc k2 hlt2
          clear hc hv2
          have hlt' : (k2 : Int) < (ss2.length : Int) := by omega
          go_wp2
          all_goals first
            | (go_ret; exact ⟨_, rfl, rfl⟩)
            | (go_roundg (ss2.length - (k2 + 1)); (case measure => omega); (case rel => exact ⟨rfl, ⟨_, rfl⟩, k2 + 1, by omega, by omega, by go_num⟩))
        · clear hv2
          go_wp2
          all_goals (go_ret; exact ⟨_, rfl, rfl⟩)

theorem zznew_any (strs : List ByteArray) (ao : Option Addr) (cap : Nat) (w : World) (hA : StrsAt w ao strs) (hlen : 1 + szs strs < 1073741823) (hcnt : strs.length < 1073741824) :
    Calls Try.prog 23 #[.slice ao strs.length cap] w fun e w' => ∃ sb, e = .returned (.pointer (some ⟨sb, 0, none⟩)) ∧ SetIs w' w.heap.size w'.heap.size sb (strs.map bsl) ∧ Below w.heap.size w w' := by
  have hc := keep (new_any strs ao cap w hA hlen hcnt)
  clear hA
  go_enter Try.func23, Try.ntmps23
  go_wp2_with (go_at_call 47; refine hc.out.mono ?_; rintro e w' ⟨sb, rfl, h1, h2⟩)
  go_ret
  exact ⟨sb, rfl, h1, h2⟩
end Go.Proofs.Qxb6000411a
