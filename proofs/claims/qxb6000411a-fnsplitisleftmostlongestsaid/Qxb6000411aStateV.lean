/-
  newStringSet: one state's links (stringset.go:70 to 82).
-/
import Derived.Test.Qxb6000411aState
namespace Go.Proofs.Qxb6000411a
open Go.RowKit Go.Maps Pl
set_option linter.unusedVariables false

/-- A row of numbers, a number a text. -/
def NRow (w : World) (g cap : Nat) (tx : List (List UInt8)) (F : List UInt8 → Int) : Prop := Row w 21 g cap (tx.map fun v => .int .i32 (F v))
section
variable {w w' : World} {g cap : Nat} {tx : List (List UInt8)} {F F' : List UInt8 → Int} {u : List UInt8}
theorem NRow.at (h : NRow w g cap tx F) (hu : u ∈ tx) : w.cell? ⟨g, ix tx u, none⟩ = some (.int .i32 (F u)) := Row.cellD h (map_ix hu _)
theorem NRow.put (h : NRow w g cap tx F) (hT : Trie tx) (hu : u ∈ tx) (n : Int) (hi : ∀ v, v ∈ tx → F' v = if v = u then n else F v) : NRow (w.setCell ⟨g, ix tx u, none⟩ (.int .i32 n)) g cap tx F' := by
  have hm : (tx.map fun v => Value.int .i32 (F' v)) = (tx.map fun v => Value.int .i32 (F v)).set (ix tx u) (.int .i32 n) := by
    apply List.ext_getElem?
    intro j
    rw [List.getElem?_set, List.getElem?_map, List.getElem?_map]
    by_cases hj : ix tx u = j
    · subst hj
      rw [if_pos rfl, get_ix hu, if_pos (by simpa using ix_lt hu)]
      simp [hi u hu]
    · rw [if_neg hj]
      cases hg : tx[j]? with
      | none => rfl
      | some v =>
        have : v ≠ u := fun e => hj (hT.ix_get (e ▸ hg))
        simp [hi v (List.mem_of_getElem? hg), this]
  unfold NRow
  rw [hm]
  exact Row.set h _ _
theorem NRow.congr (h : NRow w g cap tx F) (hi : ∀ v, v ∈ tx → F' v = F v) : NRow w g cap tx F' := by
  unfold NRow
  rw [show (tx.map fun v => Value.int .i32 (F' v)) = tx.map fun v => Value.int .i32 (F v) from List.map_congr_left fun v hv => by rw [hi v hv]]
  exact h
theorem NRow.other (h : NRow w g cap tx F) {b o : Nat} (hb : g ≠ b) (x : Value) : NRow (w.setCell ⟨b, o, none⟩ x) g cap tx F := Row.kept h (grown_setCell w ⟨b, o, none⟩ x) (by simpa using hb)
end

/-- What stands while the states are linked: all below block B, in the world w3. -/
structure CX (B : Nat) (w3 : World) (tx strs : List (List UInt8)) (sb mb k pb pcap qb qcap nb ncap ib icap fb gb eb : Nat) : Prop where
  trie : Trie tx
  few : tx.length < 1073741824
  mem : ∀ s, s ∈ strs → s ∈ tx
  cnt : strs.length < 1073741824
  short : ∀ u, u ∈ tx → u.length < 1073741823
  str : Str w3 sb (root tx) mb (.slice (some ⟨fb, 0, none⟩) tx.length tx.length) (.slice (some ⟨gb, 0, none⟩) tx.length tx.length) (.slice (some ⟨eb, 0, none⟩) tx.length tx.length)
  map : MapIs w3 mb k (nx tx)
  par : NRow w3 pb pcap tx (fun u => (ix tx u.tail : Int))
  lab : Row w3 5 qb qcap (tx.map fun u => .int .u8 ((u.headD 0).toNat : Int))
  len : NRow w3 nb ncap tx (fun u => (u.length : Int))
  idx : NRow w3 ib icap tx (idsOf strs)
  lo : sb < B ∧ mb < B ∧ pb < B ∧ qb < B ∧ nb < B ∧ ib < B
  hi : B ≤ fb ∧ B ≤ gb ∧ B ≤ eb
  fg : fb ≠ gb
  fe : fb ≠ eb
  ge : gb ≠ eb

def kW : List Nat := [3, 4, 5, 6, 7, 165, 166, 167, 171, 172, 173, 20]
theorem Keeps.trans {S : List Nat} {a b c : Act} (h : Keeps S a b) (h' : Keeps S b c) : Keeps S a c := fun i hi => (h' i hi).trans (h i hi)
theorem Keeps.sub {S T : List Nat} {a b : Act} (h : Keeps S a b) (hs : ∀ i, i ∈ T → i ∈ S) : Keeps T a b := fun i hi => h i (hs i hi)

section
variable {B : Nat} {w3 : World} {tx strs : List (List UInt8)} {sb mb k pb pcap qb qcap nb ncap ib icap fb gb eb : Nat}

/-- The first part's code: the state, its parent, the test on it; two pieces left open. -/
def rA (c d V : Code) : Code := .seq (cl V) (.seq (.seq (cl (cl (cr V))) (.seq (cl (cr (cl (cr V)))) (.cond (.tmp 182) c .skip))) d)
theorem rA_is : rA (p42 (bodyOf Try.f47)) (cr (cr (pV (bodyOf Try.f47)))) (pV (bodyOf Try.f47)) = pV (bodyOf Try.f47) := by kernel_rfl

set_option maxRecDepth 100000 in
set_option maxHeartbeats 1000000 in
theorem partA (hX : CX B w3 tx strs sb mb k pb pcap qb qcap nb ncap ib icap fb gb eb) {u : List UInt8} (hu : u ∈ tx) (hne : u ≠ []) (d : Code) (a : Act) (w : World) (Q : Exit → Act → World → Prop) (hF : Fr 285 a) (hbel : Below B w3 w) (lvb lc m q : Nat) (hq : q < m) (hm : m < 1073741824)
    (hlv : w.cell? ⟨lvb, q, none⟩ = some (.int .i32 (ix tx u : Int))) {F : List UInt8 → Int} (hfr : NRow w fb tx.length tx F) (hFd : ∀ v, v ∈ tx → v.length < u.length → F v = (ix tx (lpp tx v) : Int)) (hF0 : F u = 0 ∨ F u = (ix tx (lpp tx u) : Int))
    (s3 : sl a 3 = .pointer (some ⟨sb, 0, none⟩)) (s4 : sl a 4 = .slice (some ⟨pb, 0, none⟩) tx.length pcap) (s5 : sl a 5 = .slice (some ⟨qb, 0, none⟩) tx.length qcap) (s171 : sl a 171 = .slice (some ⟨lvb, 0, none⟩) m lc) (s173 : sl a 173 = .int .i64 (q : Int))
    (hK : ∀ a' w' F', Fr 285 a' → Keeps kW a a' → sl a' 22 = .int .i32 (ix tx u : Int) → (w' = w ∨ w' = (w.setCell ⟨fb, ix tx u, none⟩ (.int .i32 (ix tx (lpp tx u) : Int))).drew) → NRow w' fb tx.length tx F' → (∀ v, v ∈ tx → F' v = if v = u then (ix tx (lpp tx u) : Int) else F v) → d.wp Try.prog Q a' w') :
    Code.wp Try.prog (rA (p42 (bodyOf Try.f47)) d (pV (bodyOf Try.f47))) Q a w := by
  have hux := ix_lt hu
  have hT := hX.trie
  have htm := hT.tail_mem hu
  have htx := ix_lt htm
  have hcp : w.cell? ⟨pb, ix tx u, none⟩ = some (.int .i32 (ix tx u.tail : Int)) := by
    rw [hbel.cell (p := ⟨pb, ix tx u, none⟩) hX.lo.2.2.1]
    exact hX.par.at hu
  have hfew := hX.few
  obtain ⟨c, hc⟩ : ∃ c, c = p42 (bodyOf Try.f47) := ⟨_, rfl⟩
  rw [← hc]
  have Hc := keep hc
  have HK := keep hK
  have HX := keep hX
  have e := fr285 hF
  simp only [s3, s4, s5, s171, s173] at e
  rw [e]
  have H3 := keep s3
  have H4 := keep s4
  have H5 := keep s5
  have H171 := keep s171
  have H173 := keep s173
  have HFd := keep hFd
  have HF0 := keep hF0
  clear e hc hK hX s3 s4 s5 s171 s173 hFd hF0
  unfold rA
  conv => arg 2; arg 1; whnf
  conv => arg 2; arg 2; arg 1; arg 1; whnf
  conv => arg 2; arg 2; arg 1; arg 2; arg 1; whnf
  by_cases hp : ix tx u.tail = 0
  · have ht0 := (hT.ix_zero htm).1 hp
    rw [hp] at hcp
    go_wp2_with fail
    refine HK.out _ w F ⟨rfl, rfl⟩ ?_ rfl (.inl rfl) hfr ?_
    · intro i hi
      simp only [kW, List.mem_cons, List.not_mem_nil, or_false] at hi
      rcases hi with rfl | rfl | rfl | rfl | rfl | rfl | rfl | rfl | rfl | rfl | rfl | rfl
      all_goals first | rfl | exact H3.out.symm | exact H4.out.symm | exact H5.out.symm | exact H171.out.symm | exact H173.out.symm
    · intro v hv
      by_cases hvu : v = u
      · subst hvu
        rw [if_pos rfl]
        rcases HF0.out with h0 | h0
        · rw [h0]
          obtain ⟨b, rfl⟩ : ∃ b, v = [b] := by
            cases v with
            | nil => exact absurd rfl hne
            | cons b t => simp at ht0; exact ⟨b, by rw [ht0]⟩
          rw [lpp_one, hT.ix_nil]
          rfl
        · exact h0
      · rw [if_neg hvu]
  · have hcp' : ((ix tx u.tail : Int) != 0) = true := by rw [bne_iff_ne]; omega
    have htne : u.tail ≠ [] := fun e => hp ((hT.ix_zero htm).2 e)
    have hulen : u.length = u.tail.length + 1 := by
      cases u with
      | nil => exact absurd rfl hne
      | cons b t => simp
    have hlt := lpp_lt (tx := tx) htne
    have hpm := lpp_mem hT.nil_mem u.tail
    have hS : Str w sb (root tx) mb (.slice (some ⟨fb, 0, none⟩) tx.length tx.length) (.slice (some ⟨gb, 0, none⟩) tx.length tx.length) (.slice (some ⟨eb, 0, none⟩) tx.length tx.length) := HX.out.str.same (hbel.block sb HX.out.lo.1)
    have hMp : MapIs w mb k (nx tx) := HX.out.map.same (hbel.block mb HX.out.lo.2.1)
    have hlab : Row w 5 qb qcap (tx.map fun u => .int .u8 ((u.headD 0).toNat : Int)) := HX.out.lab.same (hbel.block qb HX.out.lo.2.2.2.1)
    have hln : (tx.map fun v => Value.int .i32 (F v)).length = tx.length := by simp
    have hFp : F u.tail = (ix tx (lpp tx u.tail) : Int) := HFd.out _ htm (by omega)
    have hcall := step_any (w := w.drew) sb (u.headD 0) hT (by omega) hpm (fb := fb) (fcap := tx.length) (fs := tx.map fun v => Value.int .i32 (F v)) (mb := mb) (n := k) (by rw [hln]; exact hS.same rfl) (hMp.same rfl) (Row.drew hfr) hln (by
      intro v hv hvne hvl
      rw [map_ix hv, HFd.out v hv (by omega)])
    have hres : lp tx (u.headD 0 :: lpp tx u.tail) = lpp tx u := by
      cases u with
      | nil => exact absurd rfl hne
      | cons b t => exact (lpp_cons hT b htne).symm
    rw [hres] at hcall
    have hfp := hfr.at htm
    rw [hFp] at hfp
    have hqc := hlab.cellD (map_ix hu _)
    have hxc := hfr.at hu
    have hcF := hS.cF
    have hfz : w.frozen? ⟨fb, ix tx u, none⟩ = false := Row.free hfr _
    have HC := keep hcall
    have Hcells := keep (And.intro hcF (And.intro hfp (And.intro hqc (And.intro hxc hfz))))
    have ne2 : ix tx u.tail ≠ ix tx u := by
      intro e
      have := ix_inj htm hu e
      have h1 := congrArg List.length this
      omega
    have hbb := (u.headD 0).toNat_lt
    clear hcall hS hMp hlab hln hFp hres hfp hqc hxc hcF hfz hlt hpm
    go_wp2_with fail
    rename_i K1 hK1
    rw [Hc.out]
    obtain ⟨hcF, hfp, hqc, hxc, hfz⟩ := Hcells.out
    have hlo := HX.out.lo
    have hhi := HX.out.hi
    refine seg42 _ w _ ⟨rfl, rfl⟩ sb fb qb tx.length qcap (ix tx u) (ix tx u.tail) (ix tx (lpp tx u.tail)) (u.headD 0).toNat (ix tx (lpp tx u)) _ hcF hfp hqc hxc hfz htx hux hfew hbb (by omega) ne2 (by omega) HC.out rfl rfl rfl rfl ?_
    intro a' hF' hk'
    refine hK1 a' _ ?_
    refine HK.out a' _ (fun v => if v = u then (ix tx (lpp tx u) : Int) else F v) hF' ?_ (hk'.at 22) (.inr rfl) (Row.drew (NRow.put hfr hT hu _ (fun v hv => rfl))) (fun v hv => rfl)
    intro i hi
    have h1 := hk' i (by simp only [kW, kV, List.mem_cons, List.not_mem_nil, or_false] at hi ⊢; omega)
    rw [h1]
    simp only [kW, List.mem_cons, List.not_mem_nil, or_false] at hi
    rcases hi with rfl | rfl | rfl | rfl | rfl | rfl | rfl | rfl | rfl | rfl | rfl | rfl
    all_goals first | rfl | exact H3.out.symm | exact H4.out.symm | exact H5.out.symm | exact H171.out.symm | exact H173.out.symm
end
end Go.Proofs.Qxb6000411a
