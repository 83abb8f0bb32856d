/-
  The closed facts that every row of this seat asks, the dear ones by small lemmas (the head's words are read by a lemma, not by the kernel's evaluation of the whole head).
-/
import Derived.Test.Qxb6600637aRows
import Derived.JoinedOf
import Derived.KernelRfl
namespace Go.Proofs.Qxb6600637a
set_option maxRecDepth 100000

theorem ws_word (r : List Char) : ∀ w : List Char, w.all (· != ' ') = true → wordsSigns (w ++ ' ' :: r) = w :: wordsSigns r
  | [], _ => rfl
  | c :: w, h => by
    simp only [List.all_cons, Bool.and_eq_true, bne_iff_ne] at h
    have ih := ws_word r w h.2
    have hne := h.1
    rw [List.cons_append, wordsSigns, ih]
    exact hne
theorem words_head (cs : List Char) (h : (cs.take 8 == "harness ".toList && isSumSigns ((cs.drop 8).take 64) && ((cs.drop 8).take 64).all (· != ' ') && (cs.drop 72).take 5 == " cut ".toList) = true) :
    behindMainWord (wordsSigns cs) = "cut".toList :: wordsSigns (cs.drop 77) := by
  simp only [Bool.and_eq_true, beq_iff_eq] at h
  obtain ⟨⟨⟨h1, h2⟩, h3⟩, h4⟩ := h
  have e1 : cs = cs.take 8 ++ ((cs.drop 8).take 64 ++ ((cs.drop 72).take 5 ++ cs.drop 77)) := by
    have a1 : cs.drop 8 = (cs.drop 8).take 64 ++ cs.drop 72 := by
      have := (List.take_append_drop 64 (cs.drop 8)).symm
      rw [List.drop_drop] at this
      exact this
    have a2 : cs.drop 72 = (cs.drop 72).take 5 ++ cs.drop 77 := by
      have := (List.take_append_drop 5 (cs.drop 72)).symm
      rw [List.drop_drop] at this
      exact this
    rw [← a2, ← a1, List.take_append_drop]
  generalize (cs.drop 8).take 64 = S at *
  generalize cs.drop 77 = X at *
  rw [h1, h4] at e1
  rw [e1]
  have e2 : "harness ".toList ++ (S ++ (" cut ".toList ++ X)) = "harness".toList ++ ' ' :: (S ++ ' ' :: ("cut".toList ++ ' ' :: X)) := by
    have : "harness ".toList = "harness".toList ++ [' '] := by decide
    have h2 : " cut ".toList = ' ' :: ("cut".toList ++ [' ']) := by decide
    rw [this, h2]
    simp
  rw [e2, ws_word _ _ (by decide), ws_word _ _ h3, ws_word _ _ (by decide)]
  show (if (("harness".toList == "harness".toList || "harness".toList == "ownmain".toList) && isSumSigns S) = true then _ else _) = _
  rw [if_pos (by rw [h2]; decide)]
theorem wordsCut : ∃ X, behindMainWord (wordsSigns Try.prog.initOrder.toList) = "cut".toList :: X := by
  have h : Try.prog.initOrder = String.ofList _ := rfl
  rw [h, String.toList_ofList]
  exact ⟨_, words_head _ (by kernel_rfl)⟩

theorem make_of {P : Program} {X : List (List Char)} (hX : behindMainWord (wordsSigns P.initOrder.toList) = "cut".toList :: X) : P.make = some .cut := by
  unfold Program.make
  rw [hX]
  refine Eq.trans (b := some .cut) ?_ rfl
  kernel_rfl
theorem lifts_of {P : Program} {X : List (List Char)} (hX : behindMainWord (wordsSigns P.initOrder.toList) = "cut".toList :: X) : P.liftsFinal = false := by
  unfold Program.liftsFinal Program.headLifts
  rw [hX]
  refine Eq.trans (b := false) ?_ rfl
  kernel_rfl
theorem enter_of {P : Program} {X : List (List Char)} (hX : behindMainWord (wordsSigns P.initOrder.toList) = "cut".toList :: X) (h1 : P.laysLater = false) (h2 : P.bearsReflect = false) (h3 : P.doorFits [] = true) : P.mayEnter = true := by
  unfold Program.mayEnter
  rw [hX, h1, h2]
  have e : stripLifts liftWords ("cut".toList :: X) = ([], "cut".toList :: X) := by kernel_rfl
  simp only [e, h3]
  refine Eq.trans (b := true) ?_ rfl
  kernel_rfl

/-- The facts but three. -/
def joinedRest (P : Program) (f : FuncId) (fn : Func) (s : ChangeSpec) (c : OpenClaim) : Bool :=
  c.wf (OpenSpec.ofChange s) && laidOutB P && mapsRowed P &&
  fn.params.all (P.readableRec ·) && namedTie P c.named s.vars &&
  (c.stops == []) && (P.stops == []) && (c.knobs == []) && (P.stopKnobs == []) &&
  (c.inPlace == P.inPlace f) && (c.unfollowed == P.unfollowed f) && (c.recurses == P.recurses f) && (c.named == P.varsNamed f) &&
  (c.maps == (fn.params.toList ++ s.plain.varTypes P).any (P.mapsRec ·)) && (c.ifaces == (fn.params.toList ++ s.plain.varTypes P).any (P.ifacesRec ·)) && (c.mapsOut == P.mapsAmong fn.resultTypes.toList) &&
  (c.loops == (fn.params.toList ++ s.plain.varTypes P).any (P.loopsFrom ·)) && (c.wideKeys == (fn.params.toList ++ s.plain.varTypes P ++ fn.resultTypes.toList).any (P.wideKeysFrom ·)) &&
  s.vars.all (P.varReadable ·) && fn.resultTypes.all (fun t => P.readableRec t && decide (t < P.types.size)) && (c.ifacesOut == fn.resultTypes.toList.any (P.ifacesRec ·)) && (c.loopsOut == fn.resultTypes.toList.any (P.loopsFrom ·)) && (c.plainKeys == P.plainKeys) && c.shortTexts.isNone && P.stopsHeard && (c.kinds == (if c.domain.isEmpty then [] else fn.params.toList.map fun t => match P.underlying t with | some (.int k) => some k | _ => none)) && (c.pinned == c.pinnedBy) &&
  (c.veiled == (fn.params.toList ++ s.plain.varTypes P ++ fn.resultTypes.toList).any (P.veiledRec ·)) && c.veiledFits P fn.params.toList (fn.params.toList ++ s.plain.varTypes P ++ fn.resultTypes.toList)

theorem joined_of {P : Program} {f : FuncId} {fn : Func} {s : ChangeSpec} {c : OpenClaim} (h : joinedRest P f fn s c = true) (hm : P.mayEnter = true) (hl : (c.lifted == P.liftsFinal) = true) (hk : (P.make == some c.make) = true) : joinedFacts P f fn s c = true := by
  unfold joinedRest at h
  unfold joinedFacts
  simp only [Bool.and_eq_true] at h ⊢
  obtain ⟨⟨⟨⟨⟨⟨⟨⟨⟨⟨⟨⟨⟨⟨⟨⟨⟨⟨⟨⟨⟨⟨⟨⟨⟨⟨⟨⟨k1, k2⟩, k3⟩, k4⟩, k5⟩, k6⟩, k7⟩, k8⟩, k9⟩, k10⟩, k11⟩, k12⟩, k13⟩, k14⟩, k15⟩, k16⟩, k17⟩, k18⟩, k19⟩, k20⟩, k21⟩, k22⟩, k23⟩, k24⟩, k25⟩, k26⟩, k27⟩, k28⟩, k29⟩ := h
  exact ⟨⟨⟨⟨⟨⟨⟨⟨⟨⟨⟨⟨⟨⟨⟨⟨⟨⟨⟨⟨⟨⟨⟨⟨⟨⟨⟨⟨⟨⟨⟨k1, k2⟩, k3⟩, k4⟩, k5⟩, k6⟩, k7⟩, k8⟩, k9⟩, k10⟩, k11⟩, k12⟩, k13⟩, k14⟩, k15⟩, k16⟩, k17⟩, k18⟩, k19⟩, k20⟩, k21⟩, k22⟩, k23⟩, k24⟩, k25⟩, hm⟩, hl⟩, hk⟩, k26⟩, k27⟩, k28⟩, k29⟩

theorem lays0 : Try.prog.laysLater = false := by kernel_rfl
theorem refl0 : Try.prog.bearsReflect = false := by kernel_rfl
theorem door0 : Try.prog.doorFits [] = true := by kernel_rfl
theorem enter0 : Try.prog.mayEnter = true := by
  obtain ⟨X, hX⟩ := wordsCut
  exact enter_of hX lays0 refl0 door0
theorem lifts0 : Try.prog.liftsFinal = false := by
  obtain ⟨X, hX⟩ := wordsCut
  exact lifts_of hX
theorem make0 : Try.prog.make = some .cut := by
  obtain ⟨X, hX⟩ := wordsCut
  exact make_of hX
theorem joined0 {f : FuncId} {fn : Func} {s : ChangeSpec} {c : OpenClaim} (h : joinedRest Try.prog f fn s c = true) (hl : c.lifted = false) (hk : c.make = .cut) : joinedFacts Try.prog f fn s c = true :=
  joined_of h enter0 (by rw [hl, lifts0]; rfl) (by rw [hk, make0]; rfl)
theorem prog0 : Try.pinned.checked.prog = Try.prog := by kernel_rfl
end Go.Proofs.Qxb6600637a
