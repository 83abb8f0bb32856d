/-
  newStringSet: the statements that work at one state (stringset.go:68 to 81).
-/
import Derived.Test.Qxb6000411aSlices3
import Derived.Deep.RegionHeld3
namespace Go.Proofs.Qxb6000411a
open Go.RowKit Go.Maps Pl
set_option linter.unusedVariables false

def pF (b : Code) : Code := cr (cl (cr (cr (cr (pE b)))))
def pL5 (b : Code) : Code := ci (ci (pF b))
def pL6 (b : Code) : Code := ci (ci (cr (cr (ci (cl (cr (cr (pL5 b))))))))
def pV (b : Code) : Code := ci (cl (cr (cr (pL6 b))))
def p42 (b : Code) : Code := ct (cr (cr (cl (cr (pV b)))))
def p44 (b : Code) : Code := cl (cr (cr (cr (pV b))))
def p45 (b : Code) : Code := cr (cr (cr (cr (pV b))))
def p46 (b : Code) : Code := cl (ct (cr (p45 b)))
def p47 (b : Code) : Code := cl (cr (ct (cr (p45 b))))
def p48 (b : Code) : Code := ct (cr (cr (ct (cr (p45 b)))))
def rid : Code → Nat
  | .region i _ _ => i
  | _ => 1000
theorem rid_check : (rid (cl (pV (bodyOf Try.f47))), rid (p42 (bodyOf Try.f47)), rid (p44 (bodyOf Try.f47)), rid (p46 (bodyOf Try.f47)), rid (p47 (bodyOf Try.f47)), rid (p48 (bodyOf Try.f47))) = (39, 42, 44, 46, 47, 48) := by kernel_rfl

theorem cell_off {w : World} {b o b' o' : Nat} (v : Value) (h : b ≠ b' ∨ o ≠ o') : (w.setCell ⟨b, o, none⟩ v).cell? ⟨b', o', none⟩ = w.cell? ⟨b', o', none⟩ :=
  World.cell?_setCell_other _ _ _ _ (by intro e; injection e; omega)

def kV : List Nat := [3, 4, 5, 6, 7, 165, 166, 167, 171, 172, 173, 20, 22]

set_option maxRecDepth 100000 in
set_option maxHeartbeats 1000000 in
theorem seg33 (a : Act) (w : World) (Q : Exit → Act → World → Prop) (hF : Fr 285 a) (sb eb ib n icap : Nat) (v : Int) (x : Value) (hc : w.cell? ⟨sb, 259, none⟩ = some (.slice (some ⟨eb, 0, none⟩) n n)) (hi : w.cell? ⟨ib, 0, none⟩ = some (.int .i32 v)) (he : w.cell? ⟨eb, 0, none⟩ = some x) (hf : w.frozen? ⟨eb, 0, none⟩ = false) (hn : 0 < n)
    (s3 : sl a 3 = .pointer (some ⟨sb, 0, none⟩)) (s7 : sl a 7 = .slice (some ⟨ib, 0, none⟩) n icap)
    (hQ : ∀ a', Fr 285 a' → Keeps [3, 4, 5, 6, 7, 15] a a' → Q .normal a' (w.setCell ⟨eb, 0, none⟩ (.int .i32 v)).drew) :
    Code.wp Try.prog (cl (cr (cr (pE (bodyOf Try.f47))))) Q a w := by
  refine wp_nrm ?_
  have e := fr285 hF
  simp only [s3, s7] at e
  rw [e]
  have H3 := keep s3
  have H7 := keep s7
  have HQ := keep hQ
  clear e s3 s7 hQ
  conv => arg 2; whnf
  go_region
  all_goals
    refine HQ.out _ ⟨rfl, rfl⟩ ?_
    intro i hi
    simp only [List.mem_cons, List.not_mem_nil, or_false] at hi
    rcases hi with rfl | rfl | rfl | rfl | rfl | rfl
    all_goals first | rfl | exact H3.out.symm | exact H7.out.symm

set_option maxRecDepth 100000 in
set_option maxHeartbeats 1000000 in
theorem seg42 (a : Act) (w : World) (Q : Exit → Act → World → Prop) (hF : Fr 285 a) (sb fb qb n qcap st p f b r : Nat) (x : Value) (hcF : w.cell? ⟨sb, 257, none⟩ = some (.slice (some ⟨fb, 0, none⟩) n n)) (hfp : w.cell? ⟨fb, p, none⟩ = some (.int .i32 (f : Int))) (hq : w.cell? ⟨qb, st, none⟩ = some (.int .u8 (b : Int)))
    (hx : w.cell? ⟨fb, st, none⟩ = some x) (hfz : w.frozen? ⟨fb, st, none⟩ = false) (hp : p < n) (hst : st < n) (hn : n < 1073741824) (hb : b < 256) (ne1 : sb ≠ fb) (ne2 : p ≠ st) (ne3 : qb ≠ fb)
    (hcall : Calls Try.prog 58 #[.pointer (some ⟨sb, 0, none⟩), .int .i32 (f : Int), .int .u8 (b : Int)] w.drew fun e w' => e = .returned (.int .i32 (r : Int)) ∧ w' = w.drew)
    (s3 : sl a 3 = .pointer (some ⟨sb, 0, none⟩)) (s5 : sl a 5 = .slice (some ⟨qb, 0, none⟩) n qcap) (s22 : sl a 22 = .int .i32 (st : Int)) (s23 : sl a 23 = .int .i32 (p : Int))
    (hQ : ∀ a', Fr 285 a' → Keeps (23 :: kV) a a' → Q .normal a' (w.setCell ⟨fb, st, none⟩ (.int .i32 (r : Int))).drew) :
    Code.wp Try.prog (p42 (bodyOf Try.f47)) Q a w := by
  refine wp_nrm ?_
  have e := fr285 hF
  simp only [s3, s5, s22, s23] at e
  rw [e]
  have H3 := keep s3
  have H5 := keep s5
  have H22 := keep s22
  have H23 := keep s23
  have HQ := keep hQ
  have HC := keep hcall
  have i1 : (0 : Int) ≤ (p : Int) := by omega
  have i2 : (p : Int) < (n : Int) := by omega
  have i3 : (0 : Int) ≤ (st : Int) := by omega
  have i4 : (st : Int) < (n : Int) := by omega
  have k1 : (w.setCell ⟨fb, st, none⟩ (.int .i32 (r : Int))).cell? ⟨sb, 257, none⟩ = some (.slice (some ⟨fb, 0, none⟩) n n) := by rw [cell_off _ (.inl (Ne.symm ne1))]; exact hcF
  have k2 : (w.setCell ⟨fb, st, none⟩ (.int .i32 (r : Int))).cell? ⟨fb, p, none⟩ = some (.int .i32 (f : Int)) := by rw [cell_off _ (.inr (Ne.symm ne2))]; exact hfp
  have k3 : (w.setCell ⟨fb, st, none⟩ (.int .i32 (r : Int))).cell? ⟨qb, st, none⟩ = some (.int .u8 (b : Int)) := by rw [cell_off _ (.inl (Ne.symm ne3))]; exact hq
  clear e s3 s5 s22 s23 hQ hcall
  conv => arg 2; whnf
  go_region_held3 (fun w' => w'.cell? ⟨sb, 257, none⟩ = some (.slice (some ⟨fb, 0, none⟩) n n) ∧ w'.cell? ⟨fb, p, none⟩ = some (.int .i32 (f : Int)) ∧ w'.cell? ⟨qb, st, none⟩ = some (.int .u8 (b : Int))) (go_keep) ((go_at_call 58; refine HC.out.mono ?_; rintro e w' ⟨rfl, rfl⟩))
  all_goals
    refine HQ.out _ ⟨rfl, rfl⟩ ?_
    intro i hi
    simp only [kV, List.mem_cons, List.not_mem_nil, or_false] at hi
    rcases hi with rfl | rfl | rfl | rfl | rfl | rfl | rfl | rfl | rfl | rfl | rfl | rfl | rfl | rfl
    all_goals first | rfl | exact H3.out.symm | exact H5.out.symm | exact H22.out.symm | exact H23.out.symm

set_option maxRecDepth 100000 in
set_option maxHeartbeats 1000000 in
theorem seg44 (a : Act) (w : World) (Q : Exit → Act → World → Prop) (hF : Fr 285 a) (sb gb eb n st sh : Nat) (g l : Int) (x y : Value) (hcL : w.cell? ⟨sb, 258, none⟩ = some (.slice (some ⟨gb, 0, none⟩) n n)) (hcE : w.cell? ⟨sb, 259, none⟩ = some (.slice (some ⟨eb, 0, none⟩) n n))
    (hg : w.cell? ⟨gb, sh, none⟩ = some (.int .i32 g)) (hl : w.cell? ⟨eb, sh, none⟩ = some (.int .i32 l)) (hx : w.cell? ⟨gb, st, none⟩ = some x) (hfx : w.frozen? ⟨gb, st, none⟩ = false) (hy : w.cell? ⟨eb, st, none⟩ = some y) (hfy : w.frozen? ⟨eb, st, none⟩ = false)
    (hsh : sh < n) (hst : st < n) (hn : n < 1073741824) (ne1 : sb ≠ gb) (ne2 : sb ≠ eb) (ne3 : gb ≠ eb) (ne4 : sh ≠ st)
    (s3 : sl a 3 = .pointer (some ⟨sb, 0, none⟩)) (s22 : sl a 22 = .int .i32 (st : Int)) (s24 : sl a 24 = .int .i32 (sh : Int))
    (hQ : ∀ a', Fr 285 a' → Keeps kV a a' → Q .normal a' ((w.setCell ⟨gb, st, none⟩ (.int .i32 g)).setCell ⟨eb, st, none⟩ (.int .i32 l)).drew) :
    Code.wp Try.prog (p44 (bodyOf Try.f47)) Q a w := by
  refine wp_nrm ?_
  have e := fr285 hF
  simp only [s3, s22, s24] at e
  rw [e]
  have H3 := keep s3
  have H22 := keep s22
  have HQ := keep hQ
  have i1 : (0 : Int) ≤ (sh : Int) := by omega
  have i2 : (sh : Int) < (n : Int) := by omega
  have i3 : (0 : Int) ≤ (st : Int) := by omega
  have i4 : (st : Int) < (n : Int) := by omega
  have k1 : (w.setCell ⟨gb, st, none⟩ (.int .i32 g)).cell? ⟨sb, 258, none⟩ = some (.slice (some ⟨gb, 0, none⟩) n n) := by rw [cell_off _ (.inl (Ne.symm ne1))]; exact hcL
  have k2 : (w.setCell ⟨gb, st, none⟩ (.int .i32 g)).cell? ⟨sb, 259, none⟩ = some (.slice (some ⟨eb, 0, none⟩) n n) := by rw [cell_off _ (.inl (Ne.symm ne1))]; exact hcE
  have k3 : (w.setCell ⟨gb, st, none⟩ (.int .i32 g)).cell? ⟨gb, sh, none⟩ = some (.int .i32 g) := by rw [cell_off _ (.inr (Ne.symm ne4))]; exact hg
  have k4 : (w.setCell ⟨gb, st, none⟩ (.int .i32 g)).cell? ⟨eb, sh, none⟩ = some (.int .i32 l) := by rw [cell_off _ (.inl ne3)]; exact hl
  have k5 : (w.setCell ⟨gb, st, none⟩ (.int .i32 g)).cell? ⟨eb, st, none⟩ = some y := by rw [cell_off _ (.inl ne3)]; exact hy
  have m1 : ((w.setCell ⟨gb, st, none⟩ (.int .i32 g)).setCell ⟨eb, st, none⟩ (.int .i32 l)).cell? ⟨sb, 258, none⟩ = some (.slice (some ⟨gb, 0, none⟩) n n) := by rw [cell_off _ (.inl (Ne.symm ne2))]; exact k1
  have m2 : ((w.setCell ⟨gb, st, none⟩ (.int .i32 g)).setCell ⟨eb, st, none⟩ (.int .i32 l)).cell? ⟨sb, 259, none⟩ = some (.slice (some ⟨eb, 0, none⟩) n n) := by rw [cell_off _ (.inl (Ne.symm ne2))]; exact k2
  have m3 : ((w.setCell ⟨gb, st, none⟩ (.int .i32 g)).setCell ⟨eb, st, none⟩ (.int .i32 l)).cell? ⟨gb, sh, none⟩ = some (.int .i32 g) := by rw [cell_off _ (.inl (Ne.symm ne3))]; exact k3
  have m4 : ((w.setCell ⟨gb, st, none⟩ (.int .i32 g)).setCell ⟨eb, st, none⟩ (.int .i32 l)).cell? ⟨eb, sh, none⟩ = some (.int .i32 l) := by rw [cell_off _ (.inr (Ne.symm ne4))]; exact k4
  clear e s3 s22 s24 hQ
  conv => arg 2; whnf
  go_region_held3 (fun w' => w'.cell? ⟨sb, 258, none⟩ = some (.slice (some ⟨gb, 0, none⟩) n n) ∧ w'.cell? ⟨sb, 259, none⟩ = some (.slice (some ⟨eb, 0, none⟩) n n) ∧ w'.cell? ⟨gb, sh, none⟩ = some (.int .i32 g) ∧ w'.cell? ⟨eb, sh, none⟩ = some (.int .i32 l)) (go_keep) (fail)
  all_goals
    refine HQ.out _ ⟨rfl, rfl⟩ ?_
    intro i hi
    simp only [kV, List.mem_cons, List.not_mem_nil, or_false] at hi
    rcases hi with rfl | rfl | rfl | rfl | rfl | rfl | rfl | rfl | rfl | rfl | rfl | rfl | rfl
    all_goals first | rfl | exact H3.out.symm | exact H22.out.symm

set_option maxRecDepth 100000 in
set_option maxHeartbeats 1000000 in
theorem seg46 (a : Act) (w : World) (Q : Exit → Act → World → Prop) (hF : Fr 285 a) (sb gb nb n cap st : Nat) (v : Int) (x : Value) (hc : w.cell? ⟨sb, 258, none⟩ = some (.slice (some ⟨gb, 0, none⟩) n n)) (hv : w.cell? ⟨nb, st, none⟩ = some (.int .i32 v))
    (hx : w.cell? ⟨gb, st, none⟩ = some x) (hfx : w.frozen? ⟨gb, st, none⟩ = false) (hst : st < n) (hn : n < 1073741824) (ne1 : sb ≠ gb) (ne2 : nb ≠ gb)
    (s3 : sl a 3 = .pointer (some ⟨sb, 0, none⟩)) (s6 : sl a 6 = .slice (some ⟨nb, 0, none⟩) n cap) (s22 : sl a 22 = .int .i32 (st : Int))
    (hQ : ∀ a', Fr 285 a' → Keeps kV a a' → Q .normal a' (w.setCell ⟨gb, st, none⟩ (.int .i32 v)).drew) :
    Code.wp Try.prog (p46 (bodyOf Try.f47)) Q a w := by
  refine wp_nrm ?_
  have e := fr285 hF
  simp only [s3, s22, s6] at e
  rw [e]
  have H3 := keep s3
  have H22 := keep s22
  have H6 := keep s6
  have HQ := keep hQ
  have i3 : (0 : Int) ≤ (st : Int) := by omega
  have i4 : (st : Int) < (n : Int) := by omega
  have k1 : (w.setCell ⟨gb, st, none⟩ (.int .i32 v)).cell? ⟨sb, 258, none⟩ = some (.slice (some ⟨gb, 0, none⟩) n n) := by rw [cell_off _ (.inl (Ne.symm ne1))]; exact hc
  have k2 : (w.setCell ⟨gb, st, none⟩ (.int .i32 v)).cell? ⟨nb, st, none⟩ = some (.int .i32 v) := by rw [cell_off _ (.inl (Ne.symm ne2))]; exact hv
  clear e s3 s22 s6 hQ
  conv => arg 2; whnf
  go_region_held3 (fun w' => w'.cell? ⟨sb, 258, none⟩ = some (.slice (some ⟨gb, 0, none⟩) n n) ∧ w'.cell? ⟨nb, st, none⟩ = some (.int .i32 v)) (go_keep) (fail)
  all_goals
    refine HQ.out _ ⟨rfl, rfl⟩ ?_
    intro i hi
    simp only [kV, List.mem_cons, List.not_mem_nil, or_false] at hi
    rcases hi with rfl | rfl | rfl | rfl | rfl | rfl | rfl | rfl | rfl | rfl | rfl | rfl | rfl
    all_goals first | rfl | exact H3.out.symm | exact H22.out.symm | exact H6.out.symm

set_option maxRecDepth 100000 in
set_option maxHeartbeats 1000000 in
theorem seg48 (a : Act) (w : World) (Q : Exit → Act → World → Prop) (hF : Fr 285 a) (sb gb nb n cap st : Nat) (v : Int) (x : Value) (hc : w.cell? ⟨sb, 259, none⟩ = some (.slice (some ⟨gb, 0, none⟩) n n)) (hv : w.cell? ⟨nb, st, none⟩ = some (.int .i32 v))
    (hx : w.cell? ⟨gb, st, none⟩ = some x) (hfx : w.frozen? ⟨gb, st, none⟩ = false) (hst : st < n) (hn : n < 1073741824) (ne1 : sb ≠ gb) (ne2 : nb ≠ gb)
    (s3 : sl a 3 = .pointer (some ⟨sb, 0, none⟩)) (s7 : sl a 7 = .slice (some ⟨nb, 0, none⟩) n cap) (s22 : sl a 22 = .int .i32 (st : Int))
    (hQ : ∀ a', Fr 285 a' → Keeps kV a a' → Q .normal a' (w.setCell ⟨gb, st, none⟩ (.int .i32 v)).drew) :
    Code.wp Try.prog (p48 (bodyOf Try.f47)) Q a w := by
  refine wp_nrm ?_
  have e := fr285 hF
  simp only [s3, s22, s7] at e
  rw [e]
  have H3 := keep s3
  have H22 := keep s22
  have H7 := keep s7
  have HQ := keep hQ
  have i3 : (0 : Int) ≤ (st : Int) := by omega
  have i4 : (st : Int) < (n : Int) := by omega
  have k1 : (w.setCell ⟨gb, st, none⟩ (.int .i32 v)).cell? ⟨sb, 259, none⟩ = some (.slice (some ⟨gb, 0, none⟩) n n) := by rw [cell_off _ (.inl (Ne.symm ne1))]; exact hc
  have k2 : (w.setCell ⟨gb, st, none⟩ (.int .i32 v)).cell? ⟨nb, st, none⟩ = some (.int .i32 v) := by rw [cell_off _ (.inl (Ne.symm ne2))]; exact hv
  clear e s3 s22 s7 hQ
  conv => arg 2; whnf
  go_region_held3 (fun w' => w'.cell? ⟨sb, 259, none⟩ = some (.slice (some ⟨gb, 0, none⟩) n n) ∧ w'.cell? ⟨nb, st, none⟩ = some (.int .i32 v)) (go_keep) (fail)
  all_goals
    refine HQ.out _ ⟨rfl, rfl⟩ ?_
    intro i hi
    simp only [kV, List.mem_cons, List.not_mem_nil, or_false] at hi
    rcases hi with rfl | rfl | rfl | rfl | rfl | rfl | rfl | rfl | rfl | rfl | rfl | rfl | rfl
    all_goals first | rfl | exact H3.out.symm | exact H22.out.symm | exact H7.out.symm

set_option maxRecDepth 100000 in
set_option maxHeartbeats 1000000 in
theorem seg47 (a : Act) (w : World) (Q : Exit → Act → World → Prop) (hF : Fr 285 a) (sb eb ib n cap st : Nat) (v l : Int) (hc : w.cell? ⟨sb, 259, none⟩ = some (.slice (some ⟨eb, 0, none⟩) n n)) (hv : w.cell? ⟨ib, st, none⟩ = some (.int .i32 v))
    (hl : w.cell? ⟨eb, st, none⟩ = some (.int .i32 l)) (hst : st < n) (hn : n < 1073741824)
    (s3 : sl a 3 = .pointer (some ⟨sb, 0, none⟩)) (s7 : sl a 7 = .slice (some ⟨ib, 0, none⟩) n cap) (s22 : sl a 22 = .int .i32 (st : Int))
    (hQ : ∀ a' k, Fr 285 a' → Keeps kV a a' → sl a' 271 = .bool (decide (l < 0 ∨ v < l)) → Q .normal a' (w.drewN k)) :
    Code.wp Try.prog (p47 (bodyOf Try.f47)) Q a w := by
  refine wp_nrm ?_
  have e := fr285 hF
  simp only [s3, s22, s7] at e
  rw [e]
  have H3 := keep s3
  have H22 := keep s22
  have H7 := keep s7
  have HQ := keep hQ
  have i3 : (0 : Int) ≤ (st : Int) := by omega
  have i4 : (st : Int) < (n : Int) := by omega
  clear e s3 s22 s7 hQ
  conv => arg 2; whnf
  by_cases hneg : l < 0
  · go_quiet (fail)
    refine HQ.out _ _ ⟨rfl, rfl⟩ ?_ ?_
    · intro i hi
      simp only [kV, List.mem_cons, List.not_mem_nil, or_false] at hi
      rcases hi with rfl | rfl | rfl | rfl | rfl | rfl | rfl | rfl | rfl | rfl | rfl | rfl | rfl
      all_goals first | rfl | exact H3.out.symm | exact H22.out.symm | exact H7.out.symm
    · simp [sl, hneg]
  · have hd : decide (l < 0) = false := by simpa using hneg
    go_quiet (fail)
    refine HQ.out _ _ ⟨rfl, rfl⟩ ?_ ?_
    · intro i hi
      simp only [kV, List.mem_cons, List.not_mem_nil, or_false] at hi
      rcases hi with rfl | rfl | rfl | rfl | rfl | rfl | rfl | rfl | rfl | rfl | rfl | rfl | rfl
      all_goals first | rfl | exact H3.out.symm | exact H22.out.symm | exact H7.out.symm
    · simp [sl, hneg]
end Go.Proofs.Qxb6000411a
