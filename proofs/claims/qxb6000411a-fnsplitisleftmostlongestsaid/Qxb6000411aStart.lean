/-
  newStringSet: its head (stringset.go:31 to 36).
-/
import Derived.Test.Qxb6000411aLoop1
namespace Go.Proofs.Qxb6000411a
open Go.RowKit Go.Maps Pl

def cells0 (m : Nat) : Array Value := Array.replicate 256 (.int .i32 0) ++ #[.map (some m), nilS, nilS, nilS]

theorem run_build80 (m : Nat) (w : World) : (Instr.build 80 #[(1, .map (some m))]).run Try.prog w = .ok (.agg (cells0 m)) w := by kernel_rfl
theorem run_box80 (m : Nat) (w : World) : (Instr.box 80 (.agg (cells0 m))).run Try.prog w = .ok (.pointer (some ⟨w.heap.size, 0, none⟩)) (w.alloc (.cells (cells0 m) 80)) := by kernel_rfl

theorem wpList_build80 (w : World) {ops : Array Oper} {rest : List Oper} {o : Oper} {a : Act} {Q : Exit → Act → World → Prop} (hgd : o.guard = none) (x : Operand) (ho : o.op = .build 80 #[(1, x)]) (m : Nat) (hx : a.eval x = .map (some m))
    (h : wpList Try.prog ops Q rest (a.put o.dst (.agg (cells0 m))) w) : wpList Try.prog ops Q (o :: rest) a w := by
  refine wpList_plain hgd fun K hK => ?_
  unfold Oper.wp execOp
  simp only [ho, List.map_toArray, List.map_cons, List.map_nil, hx, Sem.run_bind, Sem.run_pure, Result.andThen_ok, run_build80]
  exact hK _ _ h
theorem wpList_box80 (w : World) {ops : Array Oper} {rest : List Oper} {o : Oper} {a : Act} {Q : Exit → Act → World → Prop} (hgd : o.guard = none) (x : Operand) (ho : o.op = .box 80 x) (m : Nat) (hx : a.eval x = .agg (cells0 m))
    (h : wpList Try.prog ops Q rest (a.put o.dst (.pointer (some ⟨w.heap.size, 0, none⟩))) (w.alloc (.cells (cells0 m) 80))) : wpList Try.prog ops Q (o :: rest) a w := by
  refine wpList_plain hgd fun K hK => ?_
  unfold Oper.wp execOp
  simp only [ho, hx, Sem.run_bind, Sem.run_pure, Result.andThen_ok, run_box80]
  exact hK _ _ h

theorem str0 (w : World) (m : Nat) : Str (w.alloc (.cells (cells0 m) 80)) w.heap.size (root [[]]) m nilS nilS nilS := by
  refine ⟨cells0 m, heap_alloc_new w _, by simp [cells0], ?_, by simp [cells0], by simp [cells0], by simp [cells0], by simp [cells0]⟩
  intro b hb
  have : root [[]] b = 0 := by simp [root]
  rw [this]
  unfold cells0
  rw [Array.getElem?_append_left (by simpa using hb)]
  simp [hb]
theorem nx0 : nx [[]] = fun _ => none := by
  funext k
  unfold nx
  cases h : ([[]] : List (List UInt8))[(k / 256).toNat]? with
  | none => rfl
  | some u =>
    simp only []
    rw [if_neg]
    rintro ⟨_, h2⟩
    simp at h2

theorem MapIs.alloc {w : World} {mb n : Nat} {g : Int → Option Int} (h : MapIs w mb n g) (o : Obj) : MapIs (w.alloc o) mb n g := h.kept (World.grownBy_alloc w o none) (by simp)
theorem Str.alloc {w : World} {sb mb : Nat} {rt : Nat → Int} {fv lv ev : Value} (h : Str w sb rt mb fv lv ev) (o : Obj) : Str (w.alloc o) sb rt mb fv lv ev := h.kept (World.grownBy_alloc w o none) (by simp)

theorem mem0 (w : World) : TM w.heap.size ((((((w.alloc (Obj.map #[] 0)).alloc (Obj.cells (cells0 w.heap.size) 80)).alloc (Obj.cells #[Value.int IntKind.i32 0] 21)).alloc (Obj.cells #[Value.int IntKind.u8 0] 5)).alloc
          (Obj.cells #[Value.int IntKind.i32 0] 21)).alloc (Obj.cells #[Value.int IntKind.i32 (-1)] 21)) (w.heap.size + 1) w.heap.size [[]] (idsOf []) (w.heap.size + 1 + 1) 1 (w.heap.size + 1 + 1 + 1) 1 (w.heap.size + 1 + 1 + 1 + 1) 1 (w.heap.size + 1 + 1 + 1 + 1 + 1) 1 := by
  generalize hw1 : w.alloc (Obj.map #[] 0) = w1
  have z1 : w1.heap.size = w.heap.size + 1 := by rw [← hw1]; simp
  have m1 : MapIs w1 w.heap.size 0 (fun _ => none) := hw1 ▸ MapIs.made w
  have b2 := str0 w1 w.heap.size
  generalize hw2 : w1.alloc (Obj.cells (cells0 w.heap.size) 80) = w2 at *
  have z2 : w2.heap.size = w.heap.size + 1 + 1 := by rw [← hw2]; simp [z1]
  have b3 := Row.made w2 21 #[.int .i32 0] (by decide)
  generalize hw3 : w2.alloc (Obj.cells #[Value.int IntKind.i32 0] 21) = w3 at *
  have z3 : w3.heap.size = w.heap.size + 1 + 1 + 1 := by rw [← hw3]; simp [z2]
  have b4 := Row.made w3 5 #[.int .u8 0] (by decide)
  generalize hw4 : w3.alloc (Obj.cells #[Value.int IntKind.u8 0] 5) = w4 at *
  have z4 : w4.heap.size = w.heap.size + 1 + 1 + 1 + 1 := by rw [← hw4]; simp [z3]
  have b5 := Row.made w4 21 #[.int .i32 0] (by decide)
  generalize hw5 : w4.alloc (Obj.cells #[Value.int IntKind.i32 0] 21) = w5 at *
  have z5 : w5.heap.size = w.heap.size + 1 + 1 + 1 + 1 + 1 := by rw [← hw5]; simp [z4]
  have b6 := Row.made w5 21 #[.int .i32 (-1)] (by decide)
  rw [z1] at b2
  rw [z2] at b3
  rw [z3] at b4
  rw [z4] at b5
  rw [z5] at b6
  have c2 : MapIs w2 w.heap.size 0 (fun _ => none) := hw2 ▸ m1.alloc _
  have c3 : MapIs w3 w.heap.size 0 (fun _ => none) := hw3 ▸ c2.alloc _
  have c4 : MapIs w4 w.heap.size 0 (fun _ => none) := hw4 ▸ c3.alloc _
  have c5 : MapIs w5 w.heap.size 0 (fun _ => none) := hw5 ▸ c4.alloc _
  have d3 : Str w3 _ _ _ _ _ _ := hw3 ▸ b2.alloc _
  have d4 : Str w4 _ _ _ _ _ _ := hw4 ▸ d3.alloc _
  have d5 : Str w5 _ _ _ _ _ _ := hw5 ▸ d4.alloc _
  have e4 : Row w4 _ _ _ _ := hw4 ▸ b3.alloc _
  have e5 : Row w5 _ _ _ _ := hw5 ▸ e4.alloc _
  have f5 : Row w5 _ _ _ _ := hw5 ▸ b4.alloc _
  refine ⟨d5.alloc _, ?_, e5.alloc _, f5.alloc _, b5.alloc _, b6, by omega, by omega, by omega, by omega, by rw [World.size_alloc]; omega⟩
  rw [nx0]
  obtain ⟨D, h1, h2⟩ := c5.alloc (Obj.cells #[Value.int IntKind.i32 (-1)] 21)
  exact ⟨D, h1.mono (Nat.zero_le _), h2⟩

/-- The head's code; the loop over the strings and what follows it left open. -/
def hd0 (c d b : Code) : Code := .seq (cl b) (.seq (cl (cr b)) (.seq (cl (cr (cr b))) (.seq (.seq (cl (cl (cr (cr (cr b))))) c) d)))
theorem hd0_is : hd0 (cr (cl (cr (cr (cr (bodyOf Try.f47)))))) (cr (cr (cr (cr (bodyOf Try.f47))))) (bodyOf Try.f47) = bodyOf Try.f47 := by kernel_rfl

set_option maxRecDepth 100000 in
set_option maxHeartbeats 1000000 in
theorem start (c d : Code) (a : Act) (w : World) (Q : Exit → Act → World → Prop) (hF : Fr 285 a) (strs : List ByteArray) (ao : Option Addr) (cap : Nat) (s0 : sl a 0 = .slice ao strs.length cap)
    (hK : ∀ a' w' sb mb, I1 w.heap.size sb mb strs ao cap w 0 a' w' → c.wp Try.prog (Exit.then (d.wp Try.prog Q) Q) a' w') : Code.wp Try.prog (hd0 c d (bodyOf Try.f47)) Q a w := by
  have hmm := @run_makeMap Try.prog
  have e := fr285 hF
  simp only [s0] at e
  have HK := keep hK
  rw [e]
  clear e s0 hK
  unfold hd0
  conv => arg 2; arg 1; whnf
  conv => arg 2; arg 2; arg 1; whnf
  conv => arg 2; arg 2; arg 2; arg 1; whnf
  conv => arg 2; arg 2; arg 2; arg 2; arg 1; arg 1; whnf
  go_wp2_with (first
    | refine wpList_build80 _ rfl (.tmp 25) rfl w.heap.size rfl ?_
    | refine wpList_box80 _ rfl (.tmp 26) rfl w.heap.size rfl ?_
    | fail)
  rename_i K1 hK1
  refine wp_mono (HK.out _ _ (w.heap.size + 1) w.heap.size ⟨⟨rfl, rfl⟩, rfl, rfl, rfl, rfl, ⟨_, _, _, _, _, _, _, _, mem0 w, rfl, rfl, rfl, rfl⟩, ?_⟩) ?_
  · exact (((((((Below.refl _ _).alloc (Nat.le_refl _) _).alloc (by simp) _).alloc (by simp; omega) _).alloc (by simp; omega) _).alloc (by simp; omega) _).alloc (by simp; omega) _)
  · intro e a w h
    cases e <;> first | exact h | exact hK1 _ _ h
end Go.Proofs.Qxb6000411a
