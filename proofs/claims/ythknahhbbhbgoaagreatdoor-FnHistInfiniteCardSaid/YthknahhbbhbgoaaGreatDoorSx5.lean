/- The reckoner of this claim's walks, its fifth part: each run over the list is a run of the machine. -/
import Derived.Test.YthknahhbbhbgoaaGreatDoorSx4
namespace Go.Sx
open Go

theorem put_eq (l : List Value) (ds : List Deferred) (d : Option Nat) (v : Value) : Act.put ⟨⟨l⟩, ds⟩ d v = ⟨⟨putL l d v⟩, ds⟩ := by
  rw [putL_eq]
  cases d <;> rfl

/-- The ban on writing stays. -/
theorem ro_kept (P : Program) {α : Type} (m : Sem α) : ∀ (st st' : St) (r : SRes α), sx P m st = some (r, st') → st.ro = true → st'.ro = true := by
  induction m with
  | pure a => intro st st' r h hro; simp [sx] at h; rw [← h.2]; exact hro
  | halt x => intro st st' r h hro; simp [sx] at h; rw [← h.2]; exact hro
  | program k ih => intro st st' r h hro; exact ih P st st' r (by simpa [sx] using h) hro
  | mark x k ih => intro st st' r h hro; exact ih st st' r (by simpa [sx] using h) hro
  | load x a k ih =>
    intro st st' r h hro
    simp only [sx] at h
    split at h
    · rename_i hp; obtain ⟨e1, e2, e3, e4, e5, e6⟩ := pick_same hp
      split at h
      · split at h
        · split at h
          · exact ih _ _ _ _ h (by simp [e3, hro])
          · simp at h
        · simp at h
      · simp at h
    · rename_i hp; obtain ⟨e1, e2, e3, e4, e5, e6⟩ := pick_same hp
      split at h
      · split at h
        · exact ih _ _ _ _ h (by simp [e3, hro])
        · simp at h
      · simp at h
    · rename_i hp; obtain ⟨e1, e2, e3, e4, e5, e6⟩ := pick_same hp
      exact ih _ _ _ _ h (by simp [e3, hro])
    · simp at h
  | store x a v k ih => intro st st' r h hro; simp [sx, hro] at h
  | new o k ih => intro st st' r h hro; simp [sx, hro] at h
  | shape b k ih =>
    intro st st' r h hro
    simp only [sx] at h
    split at h
    · rename_i hp; obtain ⟨e1, e2, e3, e4, e5, e6⟩ := pick_same hp
      split at h
      · exact ih _ _ _ _ h (by simp [e3, hro])
      · exact ih _ _ _ _ h (by simp [e3, hro])
      · simp at h
    · rename_i hp; obtain ⟨e1, e2, e3, e4, e5, e6⟩ := pick_same hp
      exact ih _ _ _ _ h (by simp [e3, hro])
    · simp at h
  | frozen a k ih =>
    intro st st' r h hro
    simp only [sx] at h
    split at h
    · rename_i hp; obtain ⟨e1, e2, e3, e4, e5, e6⟩ := pick_same hp
      split at h
      · exact ih _ _ _ _ h (by simp [e3, hro])
      · simp at h
    · rename_i hp; obtain ⟨e1, e2, e3, e4, e5, e6⟩ := pick_same hp
      exact ih _ _ _ _ h (by simp [e3, hro])
    · simp at h
  | getObj b k ih =>
    intro st st' r h hro
    simp only [sx] at h
    split at h
    · rename_i hp; obtain ⟨e1, e2, e3, e4, e5, e6⟩ := pick_same hp
      split at h
      · simp at h
      · exact ih _ _ _ _ h (by simp [e3, hro])
      · simp at h
    · simp at h
  | setObj b o k ih => intro st st' r h hro; simp [sx, hro] at h
  | freeze a n k ih => intro st st' r h hro; simp only [sx] at h; split at h <;> simp_all
  | choose q k ih => intro st st' r h hro; simp only [sx] at h; split at h; · exact ih _ _ _ _ h hro
                     · simp at h
  | sys c k ih => intro st st' r h; simp [sx] at h

theorem wpQuiet_post {P : Program} {ops : Array Oper} {C : World → Prop} {Q Q' : Act → Prop} : ∀ {os : List Oper} {a : Act}, wpQuiet P ops C Q os a → (∀ a, Q a → Q' a) → wpQuiet P ops C Q' os a
  | [], _, h, hq => hq _ h
  | o :: rest, a, h, hq => by
    simp only [wpQuiet] at *
    split
    · rename_i hw
      simp only [hw, if_true] at h
      obtain ⟨v, h1, h2⟩ := h
      exact ⟨v, h1, wpQuiet_post h2 hq⟩
    · rename_i hw
      simp only [hw] at h
      exact wpQuiet_post h hq

theorem quiet_sound {P : Program} {w0 : World} {ops : Array Oper} {ds : List Deferred} : ∀ (os : List Oper) (l l' : List Value) (st st' : St), st.ro = true →
    quietOps P ops os l ds st = some (l', st') → Valid w0 st' →
    Valid w0 st ∧ st'.ro = true ∧ st'.s = st.s ∧ st'.L = st.L ∧ ∀ F, wpQuiet P ops (fun w => Good w0 st.s (st.L ++ F) w) (fun a => a = ⟨⟨l'⟩, ds⟩) os ⟨⟨l⟩, ds⟩
  | [], l, l', st, st', hro, h, hv => by
    simp only [quietOps, Option.some.injEq, Prod.mk.injEq] at h
    obtain ⟨rfl, rfl⟩ := h
    exact ⟨hv, hro, rfl, rfl, fun F => rfl⟩
  | o :: rest, l, l', st, st', hro, h, hv => by
    simp only [quietOps] at h
    split at h
    · rename_i hw
      rw [forceL_eq] at h
      obtain ⟨v1, r1, r2, r3, g⟩ := quiet_sound rest _ l' st st' hro h hv
      refine ⟨v1, r1, r2, r3, fun F => ?_⟩
      simp only [wpQuiet, hw, put_eq]
      exact g F
    · rename_i hw
      split at h
      · rename_i v st1 hx
        obtain ⟨st2, u, hy, e1, e2, e3, e4, e5⟩ := fixed_spec (w0 := w0) h
        simp only [forceV_eq, forceL_eq] at hy
        by_cases hr1 : st1.ro = true
        · obtain ⟨v1, r1, r2, r3, g⟩ := quiet_sound rest _ l' st2 st' (by rw [e3]; exact hr1) hy hv
          obtain ⟨v2, rfl⟩ := e4 v1
          obtain ⟨s1, s2, s3, g1⟩ := sx_ro P w0 _ st st1 _ hro hx (ok_valid v2)
          obtain ⟨v3, _⟩ := sx_sound P w0 _ st st1 _ hx (ok_valid v2)
          refine ⟨v3, r1, r2.trans (e1.trans s2), r3.trans (e2.trans s3), fun F => ?_⟩
          simp only [wpQuiet, hw, put_eq, if_true]
          refine ⟨u, fun w hc => ?_, ?_⟩
          · unfold Oper.quietAt
            rw [g1 F w hc]
            exact ⟨rfl, rfl⟩
          · rw [put_eq]
            have := g F
            rwa [e1, e2, show st1.ok.s = st.s from s2, show st1.ok.L = st.L from s3] at this
        · exact absurd (ro_kept P _ st st1 _ hx hro) hr1
      · rename_i st1 hx
        rw [forceL_eq] at h
        have hr1 := ro_kept P _ st st1 _ hx hro
        obtain ⟨v1, r1, r2, r3, g⟩ := quiet_sound rest _ l' st1.ok st' hr1 h hv
        obtain ⟨s1, s2, s3, g1⟩ := sx_ro P w0 _ st st1 _ hro hx (ok_valid v1)
        obtain ⟨v3, _⟩ := sx_sound P w0 _ st st1 _ hx (ok_valid v1)
        refine ⟨v3, r1, r2.trans s2, r3.trans s3, fun F => ?_⟩
        simp only [wpQuiet, hw, put_eq, if_true]
        refine ⟨undef, fun w hc => ?_, ?_⟩
        · unfold Oper.quietAt
          rw [g1 F w hc]
          exact ⟨rfl, rfl⟩
        · rw [put_eq]
          have := g F
          rwa [show st1.ok.s = st.s from s2, show st1.ok.L = st.L from s3] at this
      · simp at h

theorem region_sound {P : Program} {w0 : World} {id : Nat} {ops : Array Oper} {fr : Frame} {k : List Item} {cs : List Frame} {l : List Value} {st st' : St}
    (hm : fr.mode = .run) (hr : fr.roundOf = none) (ht : fr.todo = .code (.region id ops true) :: k) (hmix : P.follows .mixedOrders = true) (hlex : Region.lexB .any ops = true)
    (hro : st.ro = true) (h : quietOps P ops ops.toList fr.tmps.toList fr.defers st = some (l, st')) (hv : Valid w0 st') (F : List (Nat × Obj)) (w : World) (g : Good w0 st.s (st.L ++ F) w) :
    ∃ w', Steps P (lone fr cs w) (lone { fr with tmps := ⟨l⟩, todo := k } cs w') ∧ Good w0 st.s (st.L ++ F) w' := by
  obtain ⟨v1, r1, r2, r3, gq⟩ := quiet_sound ops.toList _ _ _ _ hro h hv
  have hwp : (Code.region id ops true).wp P (fun e a w => e = .normal ∧ a = ⟨⟨l⟩, fr.defers⟩ ∧ Good w0 st.s (st.L ++ F) w) ⟨fr.tmps, fr.defers⟩ w := by
    refine wp_region_quiet (C := fun w => Good w0 st.s (st.L ++ F) w) hmix hlex (g.drew _) ?_
    have := gq F
    exact wpQuiet_post this fun a ha w' hw' => ⟨rfl, ha, hw'⟩
  obtain ⟨e, a', w', ⟨he, ha, hg⟩, harr⟩ := hwp fr k cs
  subst he
  subst ha
  refine ⟨w', ?_, hg⟩
  have e1 : fr.at ⟨fr.tmps, fr.defers⟩ (.code (.region id ops true) :: k) = fr := by
    cases fr
    simp only [Frame.at] at *
    simp [hm, hr, ht]
  have e2 : fr.at ⟨⟨l⟩, fr.defers⟩ k = { fr with tmps := ⟨l⟩, todo := k } := by
    cases fr
    simp only [Frame.at] at *
    simp [hm, hr]
  rw [e1] at harr
  simp only [Arrives] at harr
  rw [e2] at harr
  exact harr

theorem sexec_sound {P : Program} {stops : List Nat} {w0 : World} {ss ss' : SS} (hm : ss.fr.mode = .run) (hr : ss.fr.roundOf = none) (h : sexec P stops ss = some ss') (hv : Valid w0 ss'.st) :
    Valid w0 ss.st ∧ Moves P w0 ss ss' := by
  unfold sexec at h
  split at h
  · rename_i ht
    simp only [Option.some.injEq] at h; subst h
    exact ⟨hv, .still rfl rfl fun cs0 w => by simp [stepG, stepG.exec, hm, hr, ht]⟩
  · rename_i k ht
    simp only [Option.some.injEq] at h; subst h
    exact ⟨hv, .still rfl rfl fun cs0 w => by simp [stepG, stepG.exec, hm, hr, ht]⟩
  · rename_i k ht
    simp only [Option.some.injEq] at h; subst h
    exact ⟨hv, .still rfl rfl fun cs0 w => by simp [stepG, stepG.exec, hm, hr, ht, todo]⟩
  · rename_i l k ht
    simp only [Option.some.injEq] at h; subst h
    exact ⟨hv, .still rfl rfl fun cs0 w => by simp [stepG, stepG.exec, hm, hr, ht, todo]⟩
  · rename_i i k ht
    simp only [Option.some.injEq] at h; subst h
    exact ⟨hv, .still rfl rfl fun cs0 w => by simp [stepG, stepG.exec, hm, hr, ht, todo]⟩
  · rename_i i k ht
    simp only [Option.some.injEq] at h; subst h
    exact ⟨hv, .still rfl rfl fun cs0 w => by simp [stepG, stepG.exec, hm, hr, ht, todo]⟩
  · rename_i a b k ht
    simp only [Option.some.injEq] at h; subst h
    exact ⟨hv, .still rfl rfl fun cs0 w => by simp [stepG, stepG.exec, hm, hr, ht, todo]⟩
  · rename_i c a b k ht
    split at h
    · rename_i x hx
      split at h
      · rename_i t r ho
        simp only [Option.some.injEq] at h; subst h
        have hob := hv.obs
        simp only [Obs, Ob.holds] at hob
        obtain ⟨rfl, hob⟩ := hob
        exact ⟨⟨hv.eq, hob⟩, .still rfl rfl fun cs0 w => by cases x <;> simp [stepG, stepG.exec, hm, hr, ht, todo, hx]⟩
      · rename_i t r ho
        simp only [Option.some.injEq] at h; subst h
        have heq := hv.eq
        simp only [List.cons.injEq] at heq
        obtain ⟨hxt, heq⟩ := heq
        have : x = t := by cases x <;> cases t <;> simp at hxt ⊢
        subst this
        exact ⟨⟨heq, hv.obs⟩, .still rfl rfl fun cs0 w => by cases x <;> simp [stepG, stepG.exec, hm, hr, ht, todo, hx]⟩
      · simp at h
    · simp at h
  · rename_i id body k ht
    simp only [Option.some.injEq] at h; subst h
    exact ⟨hv, .still rfl rfl fun cs0 w => by simp [stepG, stepG.exec, hm, hr, ht, todo]⟩
  · rename_i body k ht
    split at h
    · simp only [Option.some.injEq] at h; subst h
      exact ⟨⟨hv.eq, hv.obs⟩, .still rfl rfl fun cs0 w => by simp [stepG, stepG.exec, hm, hr, ht, todo]⟩
    · simp at h
  · rename_i body k ht
    split at h
    · simp only [Option.some.injEq] at h; subst h
      exact ⟨⟨hv.eq, hv.obs⟩, .still rfl rfl fun cs0 w => by simp [stepG, stepG.exec, hm, hr, ht, todo]⟩
    · simp at h
  · rename_i body k ht
    simp only [Option.some.injEq] at h; subst h
    exact ⟨hv, .still rfl rfl fun cs0 w => by simp [stepG, stepG.exec, hm, hr, ht, todo]⟩
  · rename_i id k ht
    split at h
    · rename_i k' hk
      simp only [Option.some.injEq] at h; subst h
      exact ⟨hv, .still rfl rfl fun cs0 w => by simp [stepG, stepG.exec, hm, hr, ht, todo, hk]⟩
    · simp at h
  · rename_i id k ht
    split at h
    · rename_i k' hk
      simp only [Option.some.injEq] at h; subst h
      exact ⟨hv, .still rfl rfl fun cs0 w => by simp [stepG, stepG.exec, hm, hr, ht, todo, hk]⟩
    · simp at h
  · rename_i id ops k ht
    simp only [Option.some.injEq] at h; subst h
    exact ⟨hv, .still rfl rfl fun cs0 w => by simp [stepG, stepG.exec, hm, hr, ht, todo]⟩
  · rename_i id ops k ht
    split at h
    · rename_i r ho
      split at h
      · rename_i hchk
        simp only [Bool.and_eq_true] at hchk
        split at h
        · rename_i l st hq
          simp only [Option.some.injEq] at h; subst h
          have hv' : Valid w0 st := ⟨hv.eq, hv.obs⟩
          obtain ⟨v1, r1, r2, r3, _⟩ := quiet_sound ops.toList _ _ _ _ rfl hq hv'
          refine ⟨⟨v1.eq, v1.obs⟩, fun F cs0 w g => ?_⟩
          obtain ⟨w', s1, g1⟩ := region_sound (cs := ss.cs ++ cs0) hm hr ht hchk.1 hchk.2 rfl hq hv' F w g
          refine ⟨w', s1, ?_⟩
          have e1 : st.s = ss.st.s := r2
          have e2 : st.L = ss.st.L := r3
          simpa [todo, e1, e2] using g1
        · simp at h
      · simp at h
    · simp at h
  · rename_i ops k ht
    simp only [Option.some.injEq] at h; subst h
    exact ⟨hv, .still rfl rfl fun cs0 w => by simp [stepG, stepG.exec, hm, hr, ht, todo]⟩
  · rename_i ops i rest k ht
    split at h
    · rename_i o ho
      rw [lget_eq, Array.getElem?_toList] at ho
      split at h
      · rename_i hw
        exact sop_sound hm hr ht ho hw h hv
      · rename_i hw
        split at h
        · rename_i fr hf
          simp only [Option.some.injEq] at h; subst h
          obtain ⟨hf1, hf2⟩ := fin_eq hf
          exact ⟨hv, .still rfl rfl fun cs0 w => by simp [stepG, stepG.exec, hm, ht, ho, hw, hf1]⟩
        · simp at h
    · simp at h
  · simp at h

end Go.Sx
