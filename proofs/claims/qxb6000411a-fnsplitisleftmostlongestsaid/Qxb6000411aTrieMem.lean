/-
  The trie in memory while it is made; a new state.
-/
import Derived.Test.Qxb6000411aFrames
namespace Go.Proofs.Qxb6000411a
open Go.RowKit Go.Maps Pl

def nilS : Value := .slice none 0 0

/-- The trie of the texts tx lies in the blocks named; 'ids u': the index of the string u, or -1. All blocks lie from B on. -/
structure TM (B : Nat) (w : World) (sb mb : Nat) (tx : List (List UInt8)) (ids : List UInt8 → Int) (pb pcap qb qcap nb ncap ib icap : Nat) : Prop where
  str : Str w sb (root tx) mb nilS nilS nilS
  map : MapIs w mb tx.length (nx tx)
  par : Row w 21 pb pcap (tx.map fun u => .int .i32 (ix tx u.tail : Int))
  lab : Row w 5 qb qcap (tx.map fun u => .int .u8 ((u.headD 0).toNat : Int))
  len : Row w 21 nb ncap (tx.map fun u => .int .i32 (u.length : Int))
  idx : Row w 21 ib icap (tx.map fun u => .int .i32 (ids u))
  pn : pb ≠ nb
  pi : pb ≠ ib
  ni : nb ≠ ib
  lo : B ≤ sb ∧ B ≤ mb ∧ B ≤ pb ∧ B ≤ qb ∧ B ≤ nb ∧ B ≤ ib
  size : B ≤ w.heap.size

theorem Row.ne_type {w : World} {e e' : TypeId} {g g' cap cap' : Nat} {xs xs' : List Value} (h : Row w e g cap xs) (h' : Row w e' g' cap' xs') (hne : e ≠ e') : g ≠ g' := by
  obtain ⟨c, h1, _⟩ := h
  obtain ⟨c', h2, _⟩ := h'
  rintro rfl
  rw [h1] at h2
  simp at h2
  exact hne h2.2
theorem Row.ne_map {w : World} {e : TypeId} {g cap mb n : Nat} {xs : List Value} {f : Int → Option Int} (h : Row w e g cap xs) (h' : MapIs w mb n f) : g ≠ mb := by
  obtain ⟨c, h1, _⟩ := h
  obtain ⟨D, ⟨es, clock, hb, _⟩, _⟩ := h'
  rintro rfl
  rw [h1] at hb
  simp at hb
theorem Row.ne_str {w : World} {e : TypeId} {g cap sb mb : Nat} {xs : List Value} {rt : Nat → Int} {fv lv ev : Value} (h : Row w e g cap xs) (h' : Str w sb rt mb fv lv ev) (hne : e ≠ 80) : g ≠ sb := by
  obtain ⟨c, h1, _⟩ := h
  obtain ⟨c', h2, _⟩ := h'
  rintro rfl
  rw [h1] at h2
  simp at h2
  exact hne h2.2
theorem Str.ne_map {w : World} {sb mb mb' n : Nat} {rt : Nat → Int} {fv lv ev : Value} {f : Int → Option Int} (h : Str w sb rt mb fv lv ev) (h' : MapIs w mb' n f) : sb ≠ mb' := by
  obtain ⟨c, h1, _⟩ := h
  obtain ⟨D, ⟨es, clock, hb, _⟩, _⟩ := h'
  rintro rfl
  rw [h1] at hb
  simp at hb

/-! ### the rows of a trie with one text more -/
section
variable {tx : List (List UInt8)} {b : UInt8} {u : List UInt8}
theorem snoc_par (hT : Trie tx) (hu : u ∈ tx) : (tx ++ [b :: u]).map (fun v => Value.int .i32 (ix (tx ++ [b :: u]) v.tail : Int)) = (tx.map fun v => Value.int .i32 (ix tx v.tail : Int)) ++ [.int .i32 (ix tx u : Int)] := by
  rw [List.map_append]
  congr 1
  · refine List.map_congr_left fun v hv => ?_
    rw [ix_pre (List.prefix_append _ _) (hT.tail_mem hv)]
  · simp [ix_pre (List.prefix_append tx [b :: u]) hu]
theorem snoc_map (f : List UInt8 → Value) : (tx ++ [b :: u]).map f = tx.map f ++ [f (b :: u)] := by simp
theorem ix_snoc (hn : (b :: u) ∉ tx) : ix (tx ++ [b :: u]) (b :: u) = tx.length := by
  unfold ix
  rw [List.idxOf_append, if_neg hn]
  simp
theorem nx_snoc (hT : Trie tx) (hu : u ∈ tx) (hn : (b :: u) ∉ tx) :
    nx (tx ++ [b :: u]) = fun j => if u ≠ [] ∧ j = (ix tx u : Int) * 256 + (b.toNat : Int) then some (tx.length : Int) else nx tx j := by
  funext k
  have hb := b.toNat_lt
  have hux := ix_lt hu
  unfold nx
  by_cases hk : (k / 256).toNat < tx.length
  · rw [List.getElem?_append_left hk]
    have hg := List.getElem?_eq_getElem hk
    generalize tx[(k / 256).toNat] = v at hg
    rw [hg]
    have hq := hT.ix_get hg
    have hv : v ∈ tx := List.mem_of_getElem? hg
    generalize hc : UInt8.ofNat (k % 256).toNat = c
    have hcn : (c.toNat : Int) = k % 256 := by
      rw [← hc]
      simp
      omega
    have hkey : (v = u ∧ c = b ∧ 0 < k / 256) ↔ (u ≠ [] ∧ k = (ix tx u : Int) * 256 + (b.toNat : Int)) := by
      constructor
      · rintro ⟨rfl, rfl, h0⟩
        refine ⟨fun e => ?_, by omega⟩
        have := (hT.ix_zero hv).2 e
        omega
      · rintro ⟨h1, h2⟩
        have hq2 : (k / 256).toNat = ix tx u := by omega
        have hvu : v = u := ix_inj hv hu (hq.trans hq2)
        have h0 : ix tx u ≠ 0 := fun e => h1 ((hT.ix_zero hu).1 e)
        exact ⟨hvu, UInt8.toNat_inj.1 (by omega), by omega⟩
    by_cases hm : (c :: v) ∈ tx
    · rw [if_neg (fun h => by obtain ⟨rfl, rfl, _⟩ := hkey.2 h; exact hn hm)]
      simp only [hm, List.mem_append_left _ hm, and_true]
      rw [ix_pre (List.prefix_append _ _) hm]
    · by_cases he : v = u ∧ c = b
      · obtain ⟨rfl, rfl⟩ := he
        by_cases h0 : 0 < k / 256
        · rw [if_pos (hkey.1 ⟨rfl, rfl, h0⟩)]
          simp only []
          rw [if_pos ⟨h0, by simp⟩, ix_snoc hn]
        · rw [if_neg (fun h => h0 (hkey.2 h).2.2)]
          simp only [h0, false_and, if_false]
      · rw [if_neg (fun h => he ⟨(hkey.2 h).1, (hkey.2 h).2.1⟩)]
        simp only [hm, and_false, if_false]
        rw [if_neg]
        rintro ⟨_, h⟩
        rcases List.mem_append.1 h with h | h
        · exact hm h
        · simp at h
          exact he ⟨h.2, h.1⟩
  · rw [List.getElem?_eq_none (by omega : tx.length ≤ (k / 256).toNat)]
    rw [if_neg (fun h => by omega)]
    by_cases he : (k / 256).toNat = tx.length
    · rw [he, List.getElem?_append_right (Nat.le_refl _)]
      simp only [Nat.sub_self, List.getElem?_cons_zero]
      rw [if_neg]
      rintro ⟨_, hm⟩
      rcases List.mem_append.1 hm with hm | hm
      · exact hn (hT.closed _ _ hm)
      · simp at hm
    · rw [List.getElem?_eq_none (by simp; omega)]
theorem root_snoc (hn : (b :: u) ∉ tx) (c : Nat) (hc : c < 256) : root (tx ++ [b :: u]) c = if u = [] ∧ c = b.toNat then (tx.length : Int) else root tx c := by
  unfold root
  by_cases he : u = [] ∧ c = b.toNat
  · obtain ⟨rfl, rfl⟩ := he
    simp only [ofNat_toNat8, and_self, if_true]
    rw [if_pos (by simp), ix_snoc hn]
  · rw [if_neg he]
    have hne : ¬ [UInt8.ofNat c] = b :: u := by
      intro e
      injection e with e1 e2
      refine he ⟨e2.symm, ?_⟩
      rw [← e1]
      simp
      omega
    by_cases hm : [UInt8.ofNat c] ∈ tx
    · rw [if_pos hm, if_pos (List.mem_append_left _ hm), ix_pre (List.prefix_append _ _) hm]
    · rw [if_neg hm, if_neg]
      intro h
      rcases List.mem_append.1 h with h | h
      · exact hm h
      · simp only [List.mem_singleton] at h
        exact hne h
end

/-! ### what each step leaves -/
section
variable {B : Nat} {w w' : World} {sb mb : Nat} {tx : List (List UInt8)} {ids : List UInt8 → Int} {pb pcap qb qcap nb ncap ib icap : Nat}
theorem TM.same (h : TM B w sb mb tx ids pb pcap qb qcap nb ncap ib icap) (hs : w.heap.size ≤ w'.heap.size) (hh : ∀ k, k < w.heap.size → B ≤ k → w'.heap[k]? = w.heap[k]?) :
    TM B w' sb mb tx ids pb pcap qb qcap nb ncap ib icap := by
  obtain ⟨h1, h2, h3, h4, h5, h6⟩ := h.lo
  exact ⟨h.str.same (hh _ h.str.lt h1), h.map.same (hh _ h.map.lt h2), h.par.same (hh _ h.par.lt h3), h.lab.same (hh _ h.lab.lt h4), h.len.same (hh _ h.len.lt h5), h.idx.same (hh _ h.idx.lt h6), h.pn, h.pi, h.ni, h.lo, Nat.le_trans h.size hs⟩
end
end Go.Proofs.Qxb6000411a
