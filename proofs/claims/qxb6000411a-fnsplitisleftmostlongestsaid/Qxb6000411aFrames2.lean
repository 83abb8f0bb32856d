/-
  More frames by slots; 'copy' onto a row of the call's own.
-/
import Derived.Test.Qxb6000411aInputs
namespace Go.Proofs.Qxb6000411a
open Go.RowKit Go.Maps Pl
set_option linter.unusedVariables false

set_option maxRecDepth 100000 in
theorem fr25 {a : Act} (h : Fr 25 a) : a = ⟨#[sl a 0, sl a 1, sl a 2, sl a 3, sl a 4, sl a 5, sl a 6, sl a 7, sl a 8, sl a 9, sl a 10, sl a 11, sl a 12, sl a 13, sl a 14, sl a 15, sl a 16, sl a 17, sl a 18, sl a 19, sl a 20, sl a 21, sl a 22, sl a 23, sl a 24], []⟩ := fr_any h

set_option maxRecDepth 100000 in
theorem fr36 {a : Act} (h : Fr 36 a) : a = ⟨#[sl a 0, sl a 1, sl a 2, sl a 3, sl a 4, sl a 5, sl a 6, sl a 7, sl a 8, sl a 9, sl a 10, sl a 11, sl a 12, sl a 13, sl a 14, sl a 15, sl a 16, sl a 17, sl a 18, sl a 19, sl a 20, sl a 21, sl a 22, sl a 23, sl a 24, sl a 25, sl a 26, sl a 27, sl a 28, sl a 29, sl a 30, sl a 31, sl a 32, sl a 33, sl a 34, sl a 35], []⟩ := fr_any h

set_option maxRecDepth 100000 in
theorem fr39 {a : Act} (h : Fr 39 a) : a = ⟨#[sl a 0, sl a 1, sl a 2, sl a 3, sl a 4, sl a 5, sl a 6, sl a 7, sl a 8, sl a 9, sl a 10, sl a 11, sl a 12, sl a 13, sl a 14, sl a 15, sl a 16, sl a 17, sl a 18, sl a 19, sl a 20, sl a 21, sl a 22, sl a 23, sl a 24, sl a 25, sl a 26, sl a 27, sl a 28, sl a 29, sl a 30, sl a 31, sl a 32, sl a 33, sl a 34, sl a 35, sl a 36, sl a 37, sl a 38], []⟩ := fr_any h

set_option maxRecDepth 100000 in
theorem fr66 {a : Act} (h : Fr 66 a) : a = ⟨#[sl a 0, sl a 1, sl a 2, sl a 3, sl a 4, sl a 5, sl a 6, sl a 7, sl a 8, sl a 9, sl a 10, sl a 11, sl a 12, sl a 13, sl a 14, sl a 15, sl a 16, sl a 17, sl a 18, sl a 19, sl a 20, sl a 21, sl a 22, sl a 23, sl a 24, sl a 25, sl a 26, sl a 27, sl a 28, sl a 29, sl a 30, sl a 31, sl a 32, sl a 33, sl a 34, sl a 35, sl a 36, sl a 37, sl a 38, sl a 39, sl a 40, sl a 41, sl a 42, sl a 43, sl a 44, sl a 45, sl a 46, sl a 47, sl a 48, sl a 49, sl a 50, sl a 51, sl a 52, sl a 53, sl a 54, sl a 55, sl a 56, sl a 57, sl a 58, sl a 59, sl a 60, sl a 61, sl a 62, sl a 63, sl a 64, sl a 65], []⟩ := fr_any h

set_option maxRecDepth 100000 in
theorem fr70 {a : Act} (h : Fr 70 a) : a = ⟨#[sl a 0, sl a 1, sl a 2, sl a 3, sl a 4, sl a 5, sl a 6, sl a 7, sl a 8, sl a 9, sl a 10, sl a 11, sl a 12, sl a 13, sl a 14, sl a 15, sl a 16, sl a 17, sl a 18, sl a 19, sl a 20, sl a 21, sl a 22, sl a 23, sl a 24, sl a 25, sl a 26, sl a 27, sl a 28, sl a 29, sl a 30, sl a 31, sl a 32, sl a 33, sl a 34, sl a 35, sl a 36, sl a 37, sl a 38, sl a 39, sl a 40, sl a 41, sl a 42, sl a 43, sl a 44, sl a 45, sl a 46, sl a 47, sl a 48, sl a 49, sl a 50, sl a 51, sl a 52, sl a 53, sl a 54, sl a 55, sl a 56, sl a 57, sl a 58, sl a 59, sl a 60, sl a 61, sl a 62, sl a 63, sl a 64, sl a 65, sl a 66, sl a 67, sl a 68, sl a 69], []⟩ := fr_any h

set_option maxRecDepth 100000 in
theorem fr86 {a : Act} (h : Fr 86 a) : a = ⟨#[sl a 0, sl a 1, sl a 2, sl a 3, sl a 4, sl a 5, sl a 6, sl a 7, sl a 8, sl a 9, sl a 10, sl a 11, sl a 12, sl a 13, sl a 14, sl a 15, sl a 16, sl a 17, sl a 18, sl a 19, sl a 20, sl a 21, sl a 22, sl a 23, sl a 24, sl a 25, sl a 26, sl a 27, sl a 28, sl a 29, sl a 30, sl a 31, sl a 32, sl a 33, sl a 34, sl a 35, sl a 36, sl a 37, sl a 38, sl a 39, sl a 40, sl a 41, sl a 42, sl a 43, sl a 44, sl a 45, sl a 46, sl a 47, sl a 48, sl a 49, sl a 50, sl a 51, sl a 52, sl a 53, sl a 54, sl a 55, sl a 56, sl a 57, sl a 58, sl a 59, sl a 60, sl a 61, sl a 62, sl a 63, sl a 64, sl a 65, sl a 66, sl a 67, sl a 68, sl a 69, sl a 70, sl a 71, sl a 72, sl a 73, sl a 74, sl a 75, sl a 76, sl a 77, sl a 78, sl a 79, sl a 80, sl a 81, sl a 82, sl a 83, sl a 84, sl a 85], []⟩ := fr_any h

set_option maxRecDepth 100000 in
theorem fr92 {a : Act} (h : Fr 92 a) : a = ⟨#[sl a 0, sl a 1, sl a 2, sl a 3, sl a 4, sl a 5, sl a 6, sl a 7, sl a 8, sl a 9, sl a 10, sl a 11, sl a 12, sl a 13, sl a 14, sl a 15, sl a 16, sl a 17, sl a 18, sl a 19, sl a 20, sl a 21, sl a 22, sl a 23, sl a 24, sl a 25, sl a 26, sl a 27, sl a 28, sl a 29, sl a 30, sl a 31, sl a 32, sl a 33, sl a 34, sl a 35, sl a 36, sl a 37, sl a 38, sl a 39, sl a 40, sl a 41, sl a 42, sl a 43, sl a 44, sl a 45, sl a 46, sl a 47, sl a 48, sl a 49, sl a 50, sl a 51, sl a 52, sl a 53, sl a 54, sl a 55, sl a 56, sl a 57, sl a 58, sl a 59, sl a 60, sl a 61, sl a 62, sl a 63, sl a 64, sl a 65, sl a 66, sl a 67, sl a 68, sl a 69, sl a 70, sl a 71, sl a 72, sl a 73, sl a 74, sl a 75, sl a 76, sl a 77, sl a 78, sl a 79, sl a 80, sl a 81, sl a 82, sl a 83, sl a 84, sl a 85, sl a 86, sl a 87, sl a 88, sl a 89, sl a 90, sl a 91], []⟩ := fr_any h

set_option maxRecDepth 100000 in
theorem fr98 {a : Act} (h : Fr 98 a) : a = ⟨#[sl a 0, sl a 1, sl a 2, sl a 3, sl a 4, sl a 5, sl a 6, sl a 7, sl a 8, sl a 9, sl a 10, sl a 11, sl a 12, sl a 13, sl a 14, sl a 15, sl a 16, sl a 17, sl a 18, sl a 19, sl a 20, sl a 21, sl a 22, sl a 23, sl a 24, sl a 25, sl a 26, sl a 27, sl a 28, sl a 29, sl a 30, sl a 31, sl a 32, sl a 33, sl a 34, sl a 35, sl a 36, sl a 37, sl a 38, sl a 39, sl a 40, sl a 41, sl a 42, sl a 43, sl a 44, sl a 45, sl a 46, sl a 47, sl a 48, sl a 49, sl a 50, sl a 51, sl a 52, sl a 53, sl a 54, sl a 55, sl a 56, sl a 57, sl a 58, sl a 59, sl a 60, sl a 61, sl a 62, sl a 63, sl a 64, sl a 65, sl a 66, sl a 67, sl a 68, sl a 69, sl a 70, sl a 71, sl a 72, sl a 73, sl a 74, sl a 75, sl a 76, sl a 77, sl a 78, sl a 79, sl a 80, sl a 81, sl a 82, sl a 83, sl a 84, sl a 85, sl a 86, sl a 87, sl a 88, sl a 89, sl a 90, sl a 91, sl a 92, sl a 93, sl a 94, sl a 95, sl a 96, sl a 97], []⟩ := fr_any h

set_option maxRecDepth 100000 in
theorem fr110 {a : Act} (h : Fr 110 a) : a = ⟨#[sl a 0, sl a 1, sl a 2, sl a 3, sl a 4, sl a 5, sl a 6, sl a 7, sl a 8, sl a 9, sl a 10, sl a 11, sl a 12, sl a 13, sl a 14, sl a 15, sl a 16, sl a 17, sl a 18, sl a 19, sl a 20, sl a 21, sl a 22, sl a 23, sl a 24, sl a 25, sl a 26, sl a 27, sl a 28, sl a 29, sl a 30, sl a 31, sl a 32, sl a 33, sl a 34, sl a 35, sl a 36, sl a 37, sl a 38, sl a 39, sl a 40, sl a 41, sl a 42, sl a 43, sl a 44, sl a 45, sl a 46, sl a 47, sl a 48, sl a 49, sl a 50, sl a 51, sl a 52, sl a 53, sl a 54, sl a 55, sl a 56, sl a 57, sl a 58, sl a 59, sl a 60, sl a 61, sl a 62, sl a 63, sl a 64, sl a 65, sl a 66, sl a 67, sl a 68, sl a 69, sl a 70, sl a 71, sl a 72, sl a 73, sl a 74, sl a 75, sl a 76, sl a 77, sl a 78, sl a 79, sl a 80, sl a 81, sl a 82, sl a 83, sl a 84, sl a 85, sl a 86, sl a 87, sl a 88, sl a 89, sl a 90, sl a 91, sl a 92, sl a 93, sl a 94, sl a 95, sl a 96, sl a 97, sl a 98, sl a 99, sl a 100, sl a 101, sl a 102, sl a 103, sl a 104, sl a 105, sl a 106, sl a 107, sl a 108, sl a 109], []⟩ := fr_any h

set_option maxRecDepth 100000 in
theorem fr115 {a : Act} (h : Fr 115 a) : a = ⟨#[sl a 0, sl a 1, sl a 2, sl a 3, sl a 4, sl a 5, sl a 6, sl a 7, sl a 8, sl a 9, sl a 10, sl a 11, sl a 12, sl a 13, sl a 14, sl a 15, sl a 16, sl a 17, sl a 18, sl a 19, sl a 20, sl a 21, sl a 22, sl a 23, sl a 24, sl a 25, sl a 26, sl a 27, sl a 28, sl a 29, sl a 30, sl a 31, sl a 32, sl a 33, sl a 34, sl a 35, sl a 36, sl a 37, sl a 38, sl a 39, sl a 40, sl a 41, sl a 42, sl a 43, sl a 44, sl a 45, sl a 46, sl a 47, sl a 48, sl a 49, sl a 50, sl a 51, sl a 52, sl a 53, sl a 54, sl a 55, sl a 56, sl a 57, sl a 58, sl a 59, sl a 60, sl a 61, sl a 62, sl a 63, sl a 64, sl a 65, sl a 66, sl a 67, sl a 68, sl a 69, sl a 70, sl a 71, sl a 72, sl a 73, sl a 74, sl a 75, sl a 76, sl a 77, sl a 78, sl a 79, sl a 80, sl a 81, sl a 82, sl a 83, sl a 84, sl a 85, sl a 86, sl a 87, sl a 88, sl a 89, sl a 90, sl a 91, sl a 92, sl a 93, sl a 94, sl a 95, sl a 96, sl a 97, sl a 98, sl a 99, sl a 100, sl a 101, sl a 102, sl a 103, sl a 104, sl a 105, sl a 106, sl a 107, sl a 108, sl a 109, sl a 110, sl a 111, sl a 112, sl a 113, sl a 114], []⟩ := fr_any h

theorem info9 : (Try.prog.info? 9).map (fun i => (i.zero, i.size, i.bytes)) = some (some (.string ByteArray.empty), 1, 16) := by kernel_rfl
theorem size9 : (Try.prog.info? 9).map (·.size) = some 1 := by kernel_rfl

/-- 'copy(d, s)', d a row of the call's own, as long as s. -/
theorem wpList_copyRow {P : Program} {w : World} {ops : Array Oper} {rest : List Oper} {o : Oper} {a : Act} {Q : Exit → Act → World → Prop} (hgd : o.guard = none) (d s : Operand) (dT sT : TypeId)
    (ho : o.op = .call { callee := .builtin .copy, args := #[d, s], argTypes := #[dT, sT] }) (elem : TypeId) (hu : P.underlying dT = some (.slice elem)) (hsz : (P.info? elem).map (·.size) = some 1)
    (g cap : Nat) (zs ys : List Value) (hrow : Row w elem g cap zs) (sp : Option Addr) (sCap : Nat) (hlen : ys.length = zs.length) (hd : a.eval d = .slice (some ⟨g, 0, none⟩) zs.length cap) (hs : a.eval s = .slice sp zs.length sCap)
    (hsrc : ys = [] ∨ ∃ b off, sp = some ⟨b, off, none⟩ ∧ ∀ j u, ys[j]? = some u → w.cell? ⟨b, off + j, none⟩ = some u) (h1 : ∀ v ∈ ys, v.oneCell' = true)
    (h : ∀ w', Row w' elem g cap ys → w.grownBy w' (some g) → wpList P ops Q rest (a.put o.dst (goInt ys.length)) w') : wpList P ops Q (o :: rest) a w := by
  rcases hsrc with rfl | ⟨b, off, rfl, hc⟩
  · refine wpList_copy_nothing hgd d s dT sT ho elem hu hsz _ _ _ _ _ _ hd hs (by rw [← hlen]; rfl) ?_
    obtain rfl : zs = [] := List.eq_nil_of_length_eq_zero (by rw [← hlen]; rfl)
    exact h w hrow (World.grownBy.refl _ _)
  · obtain ⟨cur, c1, c2, c3, c4, c5⟩ := hrow
    refine wpList_copy_own hgd d s dT sT ho elem hu hsz g 0 zs.length cap ⟨b, off, none⟩ zs.length sCap hd hs cur elem c1 ys (by rw [hlen]; simp) ?_ (by rw [hlen]; omega) h1 ?_
    · intro j u hj
      rw [Addr.add_lit]
      exact hc j u hj
    · refine h _ ⟨_, setRow_heap w g cur _ elem _ c1, by rw [hlen]; exact c2, c3, ?_, ?_⟩ ⟨rfl, rfl, rfl, by simp [World.setRow], fun k _ hk => setRow_other w g k _ (fun e => hk (by rw [e]))⟩
      · simp
        omega
      · simp

/-- The run's equation. -/
theorem run_copyRow {P : Program} {w : World} (dT sT ty elem : TypeId) (hu : P.underlying dT = some (.slice elem)) (hsz : (P.info? elem).map (·.size) = some 1)
    (g cap : Nat) (zs ys : List Value) (hrow : Row w elem g cap zs) (sp : Option Addr) (sCap n : Nat) (hn : zs.length = n) (hlen : ys.length = n)
    (hsrc : ys = [] ∨ ∃ b off, sp = some ⟨b, off, none⟩ ∧ ∀ j u, ys[j]? = some u → w.cell? ⟨b, off + j, none⟩ = some u) (h1 : ∀ v ∈ ys, v.oneCell' = true) :
    ∃ w', (Builtin.copy_ #[dT, sT] ty #[.slice (some ⟨g, 0, none⟩) n cap, .slice sp n sCap]).run P w = .ok (.int .i64 (n : Int)) w' ∧ Row w' elem g cap ys ∧ w.grownBy w' (some g) := by
  subst hn
  rcases hsrc with rfl | ⟨b, off, rfl, hc⟩
  · obtain rfl : zs = [] := List.eq_nil_of_length_eq_zero (by rw [← hlen]; rfl)
    exact ⟨w, run_copy_none (P := P) w dT sT ty elem _ _ _ _ _ _ hu hsz rfl, hrow, World.grownBy.refl _ _⟩
  · obtain ⟨cur, c1, c2, c3, c4, c5⟩ := hrow
    have hr := run_copy_row (P := P) w dT sT ty elem g 0 zs.length cap ⟨b, off, none⟩ zs.length sCap cur elem ys hu hsz c1 (by rw [hlen]; simp) (by intro j u hj; rw [Addr.add_lit]; exact hc j u hj) (by rw [hlen]; omega) h1
    rw [hlen] at hr
    refine ⟨_, hr, ⟨_, setRow_heap w g cur _ elem _ c1, by rw [hlen]; exact c2, c3, ?_, ?_⟩, ⟨rfl, rfl, rfl, by simp [World.setRow], fun k _ hk => setRow_other w g k _ (fun e => hk (by rw [e]))⟩⟩
    · simp
      omega
    · simp [hlen]

def strV (ss : List ByteArray) : List Value := ss.map fun s => .string s
theorem strsAt_row {w : World} {g cap : Nat} {ss : List ByteArray} (h : Row w 9 g cap (strV ss)) : StrsAt w (some ⟨g, 0, none⟩) ss := by
  refine .inr ⟨g, rfl, h.lt, fun i hi => h.cellD ?_⟩
  simp [strV, hi]
theorem SC.src {w : World} {ao : Option Addr} {ss : List ByteArray} (h : SC w ao ss) : strV ss = [] ∨ ∃ b off, ao = some ⟨b, off, none⟩ ∧ ∀ j u, (strV ss)[j]? = some u → w.cell? ⟨b, off + j, none⟩ = some u := by
  rcases h with rfl | ⟨b, off, h1, h2⟩
  · exact .inl rfl
  · refine .inr ⟨b, off, h1, fun j u hj => ?_⟩
    unfold strV at hj
    rw [List.getElem?_map] at hj
    obtain ⟨s, hs, rfl⟩ := Option.map_eq_some_iff.1 hj
    obtain ⟨hl, rfl⟩ := List.getElem?_eq_some_iff.1 hs
    exact h2 j hl
theorem SC.alloc {w : World} {ao : Option Addr} {ss : List ByteArray} (h : SC w ao ss) (o : Obj) : SC (w.alloc o) ao ss := by
  rcases h with h | ⟨b, off, h1, h2⟩
  · exact .inl h
  · refine .inr ⟨b, off, h1, fun i hi => ?_⟩
    have := h2 i hi
    rw [World.cell?_alloc_lt _ _ _ (World.block_lt_of_cell? _ _ this)]
    exact this
theorem strV_one (ss : List ByteArray) : ∀ v ∈ strV ss, v.oneCell' = true := by
  intro v hv
  simp only [strV, List.mem_map] at hv
  obtain ⟨s, _, rfl⟩ := hv
  rfl
theorem strV_len (ss : List ByteArray) : (strV ss).length = ss.length := by simp [strV]
end Go.Proofs.Qxb6000411a
