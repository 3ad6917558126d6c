/- The reckoner of this claim's walks, its fourth part: each step over the list is a step of the machine. -/
import Derived.Test.YthknahhbbhbgoaaGreatDoorSx3
namespace Go.Sx
open Go

/-- From every world that the list fits the machine comes to one that the new list fits. -/
def Moves (P : Program) (w0 : World) (ss ss' : SS) : Prop :=
  ∀ (F : List (Nat × Obj)) (cs0 : List Frame) (w : World), Good w0 ss.st.s (ss.st.L ++ F) w →
    ∃ w', Steps P (lone ss.fr (ss.cs ++ cs0) w) (lone ss'.fr (ss'.cs ++ cs0) w') ∧ Good w0 ss'.st.s (ss'.st.L ++ F) w'

theorem Moves.refl (P : Program) (w0 : World) (ss : SS) : Moves P w0 ss ss := fun _ _ w g => ⟨w, Steps.refl _ _, g⟩
theorem Moves.trans {P : Program} {w0 : World} {a b c : SS} (h : Moves P w0 a b) (h' : Moves P w0 b c) : Moves P w0 a c := fun F cs0 w g =>
  let ⟨w1, s1, g1⟩ := h F cs0 w g
  let ⟨w2, s2, g2⟩ := h' F cs0 w1 g1
  ⟨w2, s1.trans s2, g2⟩

/-- A step that leaves the world as it is. -/
theorem Moves.still {P : Program} {w0 : World} {ss ss' : SS} (hs : ss'.st.s = ss.st.s) (hL : ss'.st.L = ss.st.L)
    (h : ∀ cs0 w, (stepG P true { frame := ss.fr, callers := ss.cs ++ cs0, status := .running, dying := none } w).bare = .go { frame := ss'.fr, callers := ss'.cs ++ cs0, status := .running, dying := none } w) :
    Moves P w0 ss ss' := fun F cs0 w g => ⟨w, Steps.one (step_lone_go (h cs0 w)), by rw [hs, hL]; exact g⟩

theorem op_stepG {P : Program} {fr : Frame} {cs : List Frame} {ops : Array Oper} {i : Nat} {rest : List Nat} {k : List Item} {o : Oper} {w : World} (hm : fr.mode = .run) (hr : fr.roundOf = none)
    (ht : fr.todo = .inRegion ops (i :: rest) :: k) (ho : ops[i]? = some o) (hw : Region.wanted o (yielded ops fr.tmps) = true) :
    stepG P true { frame := fr, callers := cs, status := .running, dying := none } w = stepG.apply P true fr cs none (execOp fr.eval o) w := by
  simp [stepG, stepG.exec, stepG.oper, Frame.oper?, hm, hr, ht, ho, hw]

theorem sopAny_sound {P : Program} {stops : List Nat} {w0 : World} {ss ss' : SS} {ops : Array Oper} {i : Nat} {rest : List Nat} {k : List Item} {o : Oper} (hm : ss.fr.mode = .run) (hr : ss.fr.roundOf = none)
    (ht : ss.fr.todo = .inRegion ops (i :: rest) :: k) (ho : ops[i]? = some o) (hw : Region.wanted o (yielded ops ss.fr.tmps) = true)
    (h : sopAny P stops ss o = some ss') (hv : Valid w0 ss'.st) : Valid w0 ss.st ∧ Moves P w0 ss ss' := by
  have key : ∀ cs w, (stepG P true { frame := ss.fr, callers := cs, status := .running, dying := none } w) = stepG.apply P true ss.fr cs none (execOp ss.fr.eval o) w :=
    fun cs w => op_stepG hm hr ht ho hw
  unfold sopAny at h
  split at h
  · rename_i v st hx
    obtain ⟨st', u, hy, e1, e2, e3, e4, e5⟩ := fixed_spec (w0 := w0) h
    split at hy
    · rename_i fr hf
      simp only [Option.some.injEq] at hy
      subst hy
      obtain ⟨v1, rfl⟩ := e4 hv
      obtain ⟨v2, g2⟩ := sx_sound P w0 _ _ _ _ hx (ok_valid v1)
      obtain ⟨hf1, hf2⟩ := fin_eq hf
      refine ⟨v2, fun F cs0 w g => ?_⟩
      obtain ⟨w', r1, r2, _⟩ := g2 F w g
      refine ⟨w', Steps.one (step_lone_go ?_), by simpa [e1, e2, St.ok] using r2⟩
      rw [key, stepG.apply]
      simp [Sem.runT_eq, r1, SRes.in, hf1]
    · simp at hy
  · rename_i st hx
    split at h
    · rename_i fr hf
      simp only [Option.some.injEq] at h
      subst h
      obtain ⟨v2, g2⟩ := sx_sound P w0 _ _ _ _ hx (ok_valid hv)
      obtain ⟨hf1, hf2⟩ := fin_eq hf
      refine ⟨v2, fun F cs0 w g => ?_⟩
      obtain ⟨w', r1, r2, _⟩ := g2 F w g
      refine ⟨w', Steps.one (step_lone_go ?_), by simpa [St.ok] using r2⟩
      rw [key, stepG.apply]
      simp [Sem.runT_eq, r1, SRes.in, hf1]
    · simp at h
  · rename_i f args st hx
    have go : ∀ off, ss' = ⟨Frame.enter P f args .normal, ss.fr :: ss.cs, st.ok, off⟩ → Valid w0 ss.st ∧ Moves P w0 ss ss' := by
      intro off e
      subst e
      obtain ⟨v2, g2⟩ := sx_sound P w0 _ _ _ _ hx (ok_valid hv)
      refine ⟨v2, fun F cs0 w g => ?_⟩
      obtain ⟨w', r1, r2, _⟩ := g2 F w g
      refine ⟨w', Steps.one (step_lone_go ?_), by simpa [St.ok] using r2⟩
      rw [key, stepG.apply]
      simp [Sem.runT_eq, r1, SRes.in, ht]
    split at h
    · simp at h
    · rw [ent_eq] at h
      simp only [Option.some.injEq] at h
      exact go _ h.symm
  · rename_i d st hx
    split at h
    · rename_i fr hf
      simp only [Option.some.injEq] at h
      subst h
      obtain ⟨v2, g2⟩ := sx_sound P w0 _ _ _ _ hx (ok_valid hv)
      obtain ⟨hf1, hf2⟩ := fin_eq hf
      refine ⟨v2, fun F cs0 w g => ?_⟩
      obtain ⟨w', r1, r2, _⟩ := g2 F w g
      refine ⟨w', Steps.one (step_lone_go ?_), by simpa [St.ok] using r2⟩
      rw [key, stepG.apply]
      simp [Sem.runT_eq, r1, SRes.in, hf1]
    · simp at h
  · rename_i st hx
    split at h
    · rename_i hkind
      split at h
      · rename_i fr hf
        simp only [Option.some.injEq] at h
        subst h
        obtain ⟨v2, g2⟩ := sx_sound P w0 _ _ _ _ hx (ok_valid hv)
        obtain ⟨hf1, hf2⟩ := fin_eq hf
        refine ⟨v2, fun F cs0 w g => ?_⟩
        obtain ⟨w', r1, r2, _⟩ := g2 F w g
        refine ⟨w', Steps.one (step_lone_go ?_), by simpa [St.ok] using r2⟩
        rw [key, stepG.apply]
        simp [Sem.runT_eq, r1, SRes.in, hr, tryRecover, hkind, hf1]
      · simp at h
    · rename_i caller rest hkind hcs
      split at h
      · rename_i v older hmode
        split at h
        · rename_i fr hf
          simp only [Option.some.injEq] at h
          subst h
          obtain ⟨v2, g2⟩ := sx_sound P w0 _ _ _ _ hx (ok_valid hv)
          obtain ⟨hf1, hf2⟩ := fin_eq hf
          refine ⟨v2, fun F cs0 w g => ?_⟩
          obtain ⟨w', r1, r2, _⟩ := g2 F w g
          refine ⟨w', Steps.one (step_lone_go ?_), by simpa [St.ok] using r2⟩
          rw [key, stepG.apply]
          simp [Sem.runT_eq, r1, SRes.in, hr, tryRecover, hkind, hcs, hmode, hf1]
        · simp at h
      · rename_i hmode
        split at h
        · rename_i fr hf
          simp only [Option.some.injEq] at h
          subst h
          obtain ⟨v2, g2⟩ := sx_sound P w0 _ _ _ _ hx (ok_valid hv)
          obtain ⟨hf1, hf2⟩ := fin_eq hf
          refine ⟨v2, fun F cs0 w g => ?_⟩
          obtain ⟨w', r1, r2, _⟩ := g2 F w g
          refine ⟨w', Steps.one (step_lone_go ?_), by simpa [St.ok] using r2⟩
          rw [key, stepG.apply]
          simp [Sem.runT_eq, r1, SRes.in, hr, tryRecover, hkind, hcs, hmode, hf1]
        · simp at h
      · simp at h
    · simp at h
  · rename_i v st hx
    simp only [forceV_eq, Option.some.injEq] at h
    subst h
    obtain ⟨v2, g2⟩ := sx_sound P w0 _ _ _ _ hx (ok_valid hv)
    refine ⟨v2, fun F cs0 w g => ?_⟩
    obtain ⟨w', r1, r2, _⟩ := g2 F w g
    refine ⟨w', Steps.one (step_lone_go ?_), by simpa [St.ok] using r2⟩
    rw [key, stepG.apply]
    simp [Sem.runT_eq, r1, SRes.in]
  · simp at h

theorem sop_sound {P : Program} {stops : List Nat} {w0 : World} {ss ss' : SS} {ops : Array Oper} {i : Nat} {rest : List Nat} {k : List Item} {o : Oper} (hm : ss.fr.mode = .run) (hr : ss.fr.roundOf = none)
    (ht : ss.fr.todo = .inRegion ops (i :: rest) :: k) (ho : ops[i]? = some o) (hw : Region.wanted o (yielded ops ss.fr.tmps) = true)
    (h : sop P stops ss o = some ss') (hv : Valid w0 ss'.st) : Valid w0 ss.st ∧ Moves P w0 ss ss' := by
  unfold sop at h
  split at h
  · simp at h
  · exact sopAny_sound hm hr ht ho hw h hv

end Go.Sx
