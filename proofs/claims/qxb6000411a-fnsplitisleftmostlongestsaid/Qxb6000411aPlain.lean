/-
  Plain facts, no Go in sight: texts (lists of bytes), the trie of the texts' ends, the longest prefix that a trie holds, the least index.
-/
namespace Go.Proofs.Qxb6000411a.Pl

def ix (tx : List (List UInt8)) (u : List UInt8) : Nat := tx.idxOf u

structure Trie (tx : List (List UInt8)) : Prop where
  root : tx[0]? = some []
  nodup : tx.Nodup
  closed : ∀ b u, (b :: u) ∈ tx → u ∈ tx

section
variable {tx : List (List UInt8)}
theorem Trie.nil_mem (h : Trie tx) : [] ∈ tx := List.mem_of_getElem? h.root
theorem Trie.tail_mem (h : Trie tx) {u : List UInt8} (hu : u ∈ tx) : u.tail ∈ tx := by
  cases u with
  | nil => exact h.nil_mem
  | cons b v => exact h.closed b v hu
theorem ix_lt {u : List UInt8} (h : u ∈ tx) : ix tx u < tx.length := List.idxOf_lt_length_of_mem h
theorem get_ix {u : List UInt8} (h : u ∈ tx) : tx[ix tx u]? = some u := by
  rw [List.getElem?_eq_getElem (ix_lt h)]
  simp [ix]
theorem Trie.ix_get (h : Trie tx) {i : Nat} {u : List UInt8} (hi : tx[i]? = some u) : ix tx u = i := by
  obtain ⟨hl, he⟩ := List.getElem?_eq_some_iff.1 hi
  have hm : u ∈ tx := List.mem_of_getElem? hi
  have h2 := get_ix hm
  obtain ⟨hl2, he2⟩ := List.getElem?_eq_some_iff.1 h2
  have hn := List.pairwise_iff_getElem.1 h.nodup
  rcases Nat.lt_trichotomy (ix tx u) i with hlt | heq | hgt
  · exact absurd (he2.trans he.symm) (hn _ _ hl2 hl hlt)
  · exact heq
  · exact absurd (he.trans he2.symm) (hn _ _ hl hl2 hgt)
theorem Trie.ix_nil (h : Trie tx) : ix tx [] = 0 := h.ix_get h.root
theorem ix_inj {u v : List UInt8} (hu : u ∈ tx) (hv : v ∈ tx) (h : ix tx u = ix tx v) : u = v := by
  have h1 := get_ix hu
  have h2 := get_ix hv
  rw [h, h2] at h1
  exact (Option.some.inj h1).symm
theorem Trie.ix_zero (h : Trie tx) {u : List UInt8} (hu : u ∈ tx) : ix tx u = 0 ↔ u = [] :=
  ⟨fun e => ix_inj hu h.nil_mem (e.trans h.ix_nil.symm), fun e => by rw [e]; exact h.ix_nil⟩
theorem ix_pre {tx' : List (List UInt8)} (hp : tx <+: tx') {u : List UInt8} (hu : u ∈ tx) : ix tx' u = ix tx u := by
  obtain ⟨r, rfl⟩ := hp
  unfold ix
  rw [List.idxOf_append, if_pos hu]

/-! ### the longest prefix in the trie -/
def lpN (tx : List (List UInt8)) (x : List UInt8) : Nat → List UInt8
  | 0 => []
  | n + 1 => if x.take (n + 1) ∈ tx then x.take (n + 1) else lpN tx x n
def lp (tx : List (List UInt8)) (x : List UInt8) : List UInt8 := lpN tx x x.length
def lpp (tx : List (List UInt8)) (x : List UInt8) : List UInt8 := lpN tx x (x.length - 1)

theorem lpN_mem (h : [] ∈ tx) (x : List UInt8) : ∀ n, lpN tx x n ∈ tx
  | 0 => h
  | n + 1 => by
    unfold lpN
    split
    · assumption
    · exact lpN_mem h x n
theorem lpN_pre (x : List UInt8) : ∀ n, lpN tx x n <+: x
  | 0 => List.nil_prefix
  | n + 1 => by
    unfold lpN
    split
    · exact List.take_prefix _ _
    · exact lpN_pre x n
theorem lpN_len (x : List UInt8) : ∀ n, (lpN tx x n).length ≤ n
  | 0 => Nat.le_refl _
  | n + 1 => by
    unfold lpN
    split
    · rw [List.length_take]; omega
    · exact Nat.le_succ_of_le (lpN_len x n)
theorem lpN_max {x v : List UInt8} (hv : v ∈ tx) (hp : v <+: x) : ∀ n, v.length ≤ n → v.length ≤ (lpN tx x n).length
  | 0, h => by simpa [lpN] using h
  | n + 1, h => by
    unfold lpN
    have hl := hp.length_le
    split
    · rw [List.length_take]; omega
    · rename_i hn
      by_cases he : v.length = n + 1
      · have : v = x.take (n + 1) := by rw [← he]; exact List.prefix_iff_eq_take.1 hp
        exact absurd (this ▸ hv) hn
      · exact lpN_max hv hp n (by omega)

theorem pre_same {x u v : List UInt8} (hu : u <+: x) (hv : v <+: x) (h : u.length = v.length) : u = v :=
  (List.prefix_of_prefix_length_le hu hv (Nat.le_of_eq h)).eq_of_length h
theorem pre_le {x u v : List UInt8} (hu : u <+: x) (hv : v <+: x) (h : u.length ≤ v.length) : u <+: v := List.prefix_of_prefix_length_le hu hv h

theorem lp_mem (h : [] ∈ tx) (x : List UInt8) : lp tx x ∈ tx := lpN_mem h x _
theorem lp_pre (x : List UInt8) : lp tx x <+: x := lpN_pre x _
theorem lp_max {x v : List UInt8} (hv : v ∈ tx) (hp : v <+: x) : v <+: lp tx x := pre_le hp (lp_pre x) (lpN_max hv hp _ hp.length_le)
theorem lp_self {x : List UInt8} (h : x ∈ tx) : lp tx x = x := (lp_pre x).eq_of_length_le (lp_max h (List.prefix_refl x)).length_le
theorem lp_nil : lp tx [] = [] := rfl
theorem lpp_mem (h : [] ∈ tx) (x : List UInt8) : lpp tx x ∈ tx := lpN_mem h x _
theorem lpp_pre (x : List UInt8) : lpp tx x <+: x := lpN_pre x _
theorem lpp_lt {x : List UInt8} (h : x ≠ []) : (lpp tx x).length < x.length := by
  have := lpN_len (tx := tx) x (x.length - 1)
  have : 0 < x.length := List.length_pos_iff.2 h
  unfold lpp
  omega
theorem lpp_max {x v : List UInt8} (hv : v ∈ tx) (hp : v <+: x) (hne : v ≠ x) : v <+: lpp tx x := by
  have hl := hp.length_le
  have hlt : v.length ≤ x.length - 1 := by
    by_cases he : v.length = x.length
    · exact absurd (hp.eq_of_length he) hne
    · omega
  exact pre_le hp (lpp_pre x) (lpN_max hv hp _ hlt)
theorem lpp_one (b : UInt8) : lpp tx [b] = [] := rfl
theorem lpp_nil : lpp tx [] = [] := rfl

theorem lp_unique {x u : List UInt8} (h0 : [] ∈ tx) (hu : u ∈ tx) (hp : u <+: x) (hmax : ∀ v, v ∈ tx → v <+: x → v.length ≤ u.length) : lp tx x = u :=
  pre_same (lp_pre x) hp (Nat.le_antisymm (hmax _ (lp_mem h0 x) (lp_pre x)) (lp_max hu hp).length_le)

/-- The fail link of 'b' ahead of v, out of v's own. -/
theorem lpp_cons (h : Trie tx) (b : UInt8) {v : List UInt8} (hne : v ≠ []) : lpp tx (b :: v) = lp tx (b :: lpp tx v) := by
  symm
  refine lp_unique h.nil_mem (lpp_mem h.nil_mem _) ?_ ?_
  · generalize hu : lpp tx (b :: v) = u
    have hm : u ∈ tx := hu ▸ lpp_mem h.nil_mem _
    have hp : u <+: b :: v := hu ▸ lpp_pre _
    have hl : u.length < (b :: v).length := hu ▸ lpp_lt (by simp)
    cases u with
    | nil => exact List.nil_prefix
    | cons c u' =>
      obtain ⟨rfl, hp'⟩ := List.cons_prefix_cons.1 hp
      refine List.cons_prefix_cons.2 ⟨rfl, lpp_max (h.closed _ _ hm) hp' ?_⟩
      intro e
      subst e
      simp at hl
  · intro u hm hp
    refine (lpp_max hm (hp.trans (List.cons_prefix_cons.2 ⟨rfl, lpp_pre v⟩)) ?_).length_le
    intro e
    subst e
    have h1 := hp.length_le
    have h2 := lpp_lt (tx := tx) hne
    simp at h1
    omega
theorem lp_of_not_mem {x : List UInt8} (h0 : [] ∈ tx) (h : x ∉ tx) : lp tx x = lpp tx x :=
  lp_unique h0 (lpp_mem h0 x) (lpp_pre x) fun _ hv hp => (lpp_max hv hp (fun e => h (e ▸ hv))).length_le
theorem lp_miss (h : Trie tx) (b : UInt8) {v : List UInt8} (hne : v ≠ []) (hn : (b :: v) ∉ tx) : lp tx (b :: v) = lp tx (b :: lpp tx v) := by
  rw [lp_of_not_mem h.nil_mem hn, lpp_cons h b hne]
theorem lp_root (h : Trie tx) (b : UInt8) (hn : [b] ∉ tx) : lp tx [b] = [] := by rw [lp_of_not_mem h.nil_mem hn, lpp_one]
/-- One step of a pass over a text. -/
theorem lp_cons (h : Trie tx) (b : UInt8) (x : List UInt8) : lp tx (b :: x) = lp tx (b :: lp tx x) := by
  symm
  refine lp_unique h.nil_mem (lp_mem h.nil_mem _) ?_ ?_
  · generalize hu : lp tx (b :: x) = u
    have hm : u ∈ tx := hu ▸ lp_mem h.nil_mem _
    have hp : u <+: b :: x := hu ▸ lp_pre _
    cases u with
    | nil => exact List.nil_prefix
    | cons c u' =>
      obtain ⟨rfl, hp'⟩ := List.cons_prefix_cons.1 hp
      exact List.cons_prefix_cons.2 ⟨rfl, lp_max (h.closed _ _ hm) hp'⟩
  · intro u hm hp
    exact (lp_max hm (hp.trans (List.cons_prefix_cons.2 ⟨rfl, lp_pre x⟩))).length_le
end

/-! ### the least index -/
def lb (p : List UInt8 → Bool) (l : List (List UInt8)) : Int := match l.findIdx? p with
  | some i => (i : Int)
  | none => -1
def lmin (a b : Int) : Int := if 0 ≤ b ∧ (a < 0 ∨ b < a) then b else a

section
variable {p q : List UInt8 → Bool} {l : List (List UInt8)}
theorem lb_nil : lb p [] = -1 := rfl
theorem lb_cons (s : List UInt8) : lb p (s :: l) = if p s then 0 else if lb p l < 0 then -1 else lb p l + 1 := by
  unfold lb
  rw [List.findIdx?_cons]
  by_cases h : p s
  · simp [h]
  · simp only [h]
    cases l.findIdx? p with
    | none => simp
    | some i => simp; omega
theorem lb_ge (p : List UInt8 → Bool) (l : List (List UInt8)) : -1 ≤ lb p l := by unfold lb; split <;> omega
theorem lb_lt (p : List UInt8 → Bool) (l : List (List UInt8)) : lb p l < l.length ∨ lb p l = -1 := by
  unfold lb
  split
  · rename_i i h
    have := (List.findIdx?_eq_some_iff_findIdx_eq.1 h).1
    omega
  · omega
theorem lb_le (p : List UInt8 → Bool) (l : List (List UInt8)) : lb p l ≤ l.length := by rcases lb_lt p l with h | h <;> omega
theorem lb_or (p q : List UInt8 → Bool) : ∀ l, lb (fun s => p s || q s) l = lmin (lb p l) (lb q l)
  | [] => by simp [lb, lmin]
  | s :: l => by
    have ih := lb_or p q l
    have h1 := lb_ge p l
    have h2 := lb_ge q l
    rw [lb_cons, lb_cons, lb_cons, ih]
    unfold lmin
    by_cases hp : p s <;> by_cases hq : q s <;> simp only [hp, hq, Bool.or_true, Bool.or_false, if_true, if_false, Bool.false_eq_true] <;> (repeat' split) <;> omega
theorem lb_congr : ∀ {l : List (List UInt8)}, (∀ s, s ∈ l → p s = q s) → lb p l = lb q l
  | [], _ => rfl
  | s :: l, h => by
    rw [lb_cons, lb_cons, h s (by simp), lb_congr (l := l) fun s' hs => h s' (by simp [hs])]
theorem lb_append (p : List UInt8 → Bool) : ∀ l r, lb p (l ++ r) = if 0 ≤ lb p l then lb p l else if 0 ≤ lb p r then l.length + lb p r else -1
  | [], r => by
    have := lb_ge p r
    simp only [List.nil_append, lb_nil, List.length_nil]
    repeat' split
    all_goals omega
  | s :: l, r => by
    have ih := lb_append p l r
    have h1 := lb_ge p l
    have h2 := lb_ge p r
    rw [List.cons_append, lb_cons, ih, lb_cons, List.length_cons]
    repeat' split
    all_goals omega
theorem lb_none {l : List (List UInt8)} (h : ∀ s, s ∈ l → p s = false) : lb p l = -1 := by
  rw [lb_congr (q := fun _ => false) h]
  clear h
  induction l with
  | nil => rfl
  | cons s l ih => rw [lb_cons, ih]; simp
theorem lb_nonneg {l : List (List UInt8)} : 0 ≤ lb p l ↔ ∃ s, s ∈ l ∧ p s = true := by
  induction l with
  | nil => simp [lb_nil]
  | cons s l ih =>
    rw [lb_cons]
    have := lb_ge p l
    by_cases hp : p s
    · simp [hp]
    · simp only [hp, Bool.false_eq_true, if_false]
      constructor
      · intro h
        have : 0 ≤ lb p l := by
          by_cases hc : lb p l < 0
          · rw [if_pos hc] at h; omega
          · omega
        obtain ⟨s', h1, h2⟩ := ih.1 this
        exact ⟨s', by simp [h1], h2⟩
      · rintro ⟨s', h1, h2⟩
        rcases List.mem_cons.1 h1 with rfl | h1
        · exact absurd h2 hp
        · have := ih.2 ⟨s', h1, h2⟩
          rw [if_neg (by omega)]
          omega
end

/-! ### the longest string of a list that a text begins with -/
def lg (strs : List (List UInt8)) (u : List UInt8) : Nat := strs.foldl (fun m s => if m < s.length ∧ s.isPrefixOf u = true then s.length else m) 0

theorem lg_go (u : List UInt8) : ∀ (strs : List (List UInt8)) (m : Nat),
    m ≤ strs.foldl (fun m s => if m < s.length ∧ s.isPrefixOf u = true then s.length else m) m ∧
    (∀ s, s ∈ strs → s <+: u → s.length ≤ strs.foldl (fun m s => if m < s.length ∧ s.isPrefixOf u = true then s.length else m) m) ∧
    (strs.foldl (fun m s => if m < s.length ∧ s.isPrefixOf u = true then s.length else m) m = m ∨
      ∃ s, s ∈ strs ∧ s <+: u ∧ s.length = strs.foldl (fun m s => if m < s.length ∧ s.isPrefixOf u = true then s.length else m) m)
  | [], m => by simp
  | s :: l, m => by
    simp only [List.foldl_cons]
    obtain ⟨h1, h2, h3⟩ := lg_go u l (if m < s.length ∧ s.isPrefixOf u = true then s.length else m)
    generalize hr : l.foldl (fun m s => if m < s.length ∧ s.isPrefixOf u = true then s.length else m) (if m < s.length ∧ s.isPrefixOf u = true then s.length else m) = r at *
    by_cases hc : m < s.length ∧ s.isPrefixOf u = true
    · simp only [if_pos hc] at h1 h3
      refine ⟨by omega, ?_, ?_⟩
      · intro s' hs' hp'
        rcases List.mem_cons.1 hs' with rfl | hs'
        · exact h1
        · exact h2 s' hs' hp'
      · rcases h3 with h3 | ⟨s', h4, h5, h6⟩
        · exact .inr ⟨s, by simp, List.isPrefixOf_iff_prefix.1 hc.2, h3.symm⟩
        · exact .inr ⟨s', by simp [h4], h5, h6⟩
    · simp only [if_neg hc] at h1 h3
      refine ⟨h1, ?_, ?_⟩
      · intro s' hs' hp'
        rcases List.mem_cons.1 hs' with rfl | hs'
        · have := List.isPrefixOf_iff_prefix.2 hp'
          by_cases hm : m < s'.length
          · exact absurd ⟨hm, this⟩ hc
          · omega
        · exact h2 s' hs' hp'
      · rcases h3 with h3 | ⟨s', h4, h5, h6⟩
        · exact .inl h3
        · exact .inr ⟨s', by simp [h4], h5, h6⟩

theorem lg_max {strs : List (List UInt8)} {u s : List UInt8} (hs : s ∈ strs) (hp : s <+: u) : s.length ≤ lg strs u := (lg_go u strs 0).2.1 s hs hp
theorem lg_some (strs : List (List UInt8)) (u : List UInt8) : lg strs u = 0 ∨ ∃ s, s ∈ strs ∧ s <+: u ∧ s.length = lg strs u := (lg_go u strs 0).2.2
theorem lg_le (strs : List (List UInt8)) (u : List UInt8) : lg strs u ≤ u.length := by
  rcases lg_some strs u with h | ⟨s, _, hp, hl⟩
  · omega
  · rw [← hl]; exact hp.length_le
theorem lg_congr {strs : List (List UInt8)} {u v : List UInt8} (h : ∀ s, s ∈ strs → (s <+: u ↔ s <+: v)) : lg strs u = lg strs v := by
  apply Nat.le_antisymm
  · rcases lg_some strs u with h1 | ⟨s, hs, hp, hl⟩
    · omega
    · rw [← hl]; exact lg_max hs ((h s hs).1 hp)
  · rcases lg_some strs v with h1 | ⟨s, hs, hp, hl⟩
    · omega
    · rw [← hl]; exact lg_max hs ((h s hs).2 hp)

/-! ### what a state answers -/
section
variable {tx strs : List (List UInt8)}
theorem pre_lp (hs : ∀ s, s ∈ strs → s ∈ tx) (x : List UInt8) : ∀ s, s ∈ strs → (s <+: lp tx x ↔ s <+: x) :=
  fun s h => ⟨fun hp => hp.trans (lp_pre x), fun hp => lp_max (hs s h) hp⟩
theorem lg_lp (hs : ∀ s, s ∈ strs → s ∈ tx) (x : List UInt8) : lg strs (lp tx x) = lg strs x := lg_congr (pre_lp hs x)
theorem lb_lp (hs : ∀ s, s ∈ strs → s ∈ tx) (x : List UInt8) : lb (fun s => s.isPrefixOf (lp tx x)) strs = lb (fun s => s.isPrefixOf x) strs := by
  refine lb_congr fun s h => ?_
  rw [Bool.eq_iff_iff, List.isPrefixOf_iff_prefix, List.isPrefixOf_iff_prefix]
  exact pre_lp hs x s h
theorem pre_lpp (hs : ∀ s, s ∈ strs → s ∈ tx) (x : List UInt8) : ∀ s, s ∈ strs → (s <+: x ↔ s <+: lpp tx x ∨ s = x) := by
  intro s h
  constructor
  · intro hp
    by_cases he : s = x
    · exact .inr he
    · exact .inl (lpp_max (hs s h) hp he)
  · rintro (hp | rfl)
    · exact hp.trans (lpp_pre x)
    · exact List.prefix_refl _
theorem lg_lpp (hs : ∀ s, s ∈ strs → s ∈ tx) (x : List UInt8) : lg strs x = if x ∈ strs then x.length else lg strs (lpp tx x) := by
  by_cases hx : x ∈ strs
  · rw [if_pos hx]
    exact Nat.le_antisymm (lg_le _ _) (lg_max hx (List.prefix_refl x))
  · rw [if_neg hx]
    refine lg_congr fun s h => (pre_lpp hs x s h).trans ⟨?_, .inl⟩
    rintro (h1 | rfl)
    · exact h1
    · exact absurd h hx
theorem lb_lpp (hs : ∀ s, s ∈ strs → s ∈ tx) (x : List UInt8) :
    lb (fun s => s.isPrefixOf x) strs = lmin (lb (fun s => s.isPrefixOf (lpp tx x)) strs) (lb (fun s => s == x) strs) := by
  rw [← lb_or]
  refine lb_congr fun s h => ?_
  rw [Bool.eq_iff_iff, Bool.or_eq_true, List.isPrefixOf_iff_prefix, List.isPrefixOf_iff_prefix, beq_iff_eq]
  exact pre_lpp hs x s h
theorem lb_eq_nonneg (x : List UInt8) : 0 ≤ lb (fun s => s == x) strs ↔ x ∈ strs := by
  rw [lb_nonneg]
  constructor
  · rintro ⟨s, h, e⟩
    rw [beq_iff_eq] at e
    exact e ▸ h
  · intro h
    exact ⟨x, h, by simp⟩
end

/-! ### the trie of some strings' ends -/
def addT (tx : List (List UInt8)) : List UInt8 → List (List UInt8)
  | [] => tx
  | b :: u => if (b :: u) ∈ addT tx u then addT tx u else addT tx u ++ [b :: u]
def tr (strs : List (List UInt8)) : List (List UInt8) := strs.foldl addT [[]]

theorem trie0 : Trie [[]] := ⟨rfl, by simp, by simp⟩
section
variable {tx : List (List UInt8)}
theorem addT_pre : ∀ u, tx <+: addT tx u
  | [] => List.prefix_refl _
  | b :: u => by
    unfold addT
    split
    · exact addT_pre u
    · exact (addT_pre u).trans (List.prefix_append _ _)
theorem addT_mem (h : [] ∈ tx) : ∀ u, u ∈ addT tx u
  | [] => h
  | b :: u => by
    unfold addT
    split
    · assumption
    · simp
theorem Trie.snoc (h : Trie tx) {b : UInt8} {u : List UInt8} (hu : u ∈ tx) (hn : (b :: u) ∉ tx) : Trie (tx ++ [b :: u]) := by
  refine ⟨?_, ?_, ?_⟩
  · have hl : 0 < tx.length := by
      have := (List.getElem?_eq_some_iff.1 h.root).1
      exact this
    rw [List.getElem?_append_left hl]
    exact h.root
  · rw [List.nodup_append]
    exact ⟨h.nodup, by simp, fun a ha c hc e => hn (by simp at hc; rw [← hc, ← e]; exact ha)⟩
  · intro c v hm
    rcases List.mem_append.1 hm with hm | hm
    · exact List.mem_append_left _ (h.closed c v hm)
    · simp at hm
      exact List.mem_append_left _ (hm.2 ▸ hu)
theorem addT_trie (h : Trie tx) : ∀ u, Trie (addT tx u)
  | [] => h
  | b :: u => by
    unfold addT
    split
    · exact addT_trie h u
    · rename_i hn
      exact (addT_trie h u).snoc (addT_mem h.nil_mem u) hn
theorem addT_len : ∀ u, (addT tx u).length ≤ tx.length + u.length
  | [] => by simp [addT]
  | b :: u => by
    have := addT_len u
    unfold addT
    split <;> simp <;> omega
theorem tr_snoc (l : List (List UInt8)) (s : List UInt8) : tr (l ++ [s]) = addT (tr l) s := by simp [tr, List.foldl_append]
end
def sumLen (l : List (List UInt8)) : Nat := l.foldl (fun n s => n + s.length) 0
theorem sumLen_snoc (l : List (List UInt8)) (s : List UInt8) : sumLen (l ++ [s]) = sumLen l + s.length := by simp [sumLen, List.foldl_append]

theorem snoc_ind {P : List (List UInt8) → Prop} (h0 : P []) (h1 : ∀ l s, P l → P (l ++ [s])) (l : List (List UInt8)) : P l := by
  have : ∀ n (l : List (List UInt8)), l.length = n → P l := by
    intro n
    induction n with
    | zero => intro l hl; rw [List.eq_nil_of_length_eq_zero hl]; exact h0
    | succ n ih =>
      intro l hl
      have hne : l ≠ [] := by intro e; subst e; simp at hl
      rw [← List.dropLast_concat_getLast hne]
      exact h1 _ _ (ih _ (by simp [hl]))
  exact this _ l rfl
theorem tr_trie : ∀ l, Trie (tr l) := snoc_ind trie0 fun l s h => by rw [tr_snoc]; exact addT_trie h s
theorem tr_mem : ∀ (l : List (List UInt8)) s, s ∈ l → s ∈ tr l := snoc_ind (by simp) fun l s h s' hs => by
  rw [tr_snoc]
  rcases List.mem_append.1 hs with hs | hs
  · exact (addT_pre s).subset (h s' hs)
  · simp at hs
    subst hs
    exact addT_mem (tr_trie l).nil_mem _
theorem tr_len : ∀ l, (tr l).length ≤ 1 + sumLen l := snoc_ind (by simp [tr, sumLen]) fun l s h => by
  rw [tr_snoc, sumLen_snoc]
  have := addT_len (tx := tr l) s
  omega
end Go.Proofs.Qxb6000411a.Pl
