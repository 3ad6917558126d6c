/- The reckoner of this claim's walks, its sixth part: leaving a frame; whole runs; contracts. -/
import Derived.Test.YthknahhbbhbgoaaGreatDoorSx5
namespace Go.Sx
open Go

theorem lgetF {P : Program} {f : Nat} {fn : Func} (h : lget P.funcs.toList f = some fn) : P.funcs[f]? = some fn := by
  rwa [lget_eq, Array.getElem?_toList] at h

theorem sback_eq {P : Program} {caller fr' fr : Frame} {k : CallKind} {v : Value} {rest : List Frame} {w : World} (hk : fr.kind = k) (h : sback caller k v = some fr') :
    doReturn P true fr (caller :: rest) none v w = .go { frame := fr', callers := rest, status := .running, dying := none } w := by
  cases k <;> simp only [sback] at h
  · obtain ⟨h1, _⟩ := fin_eq h
    simp [doReturn, hk, h1]
  · split at h
    · rename_i v' r' g' older hmode
      split at h
      · rename_i hd
        simp only [Option.some.injEq] at h; subst h
        simp [doReturn, hk, hmode, hd]
      · rename_i hd
        simp only [Option.some.injEq] at h; subst h
        simp only [doReturn, hk, hmode]
    · rename_i hmode
      simp only [Option.some.injEq] at h; subst h
      simp only [doReturn, hk]
  all_goals simp at h

theorem sunwind_sound {P : Program} {w0 : World} {ss ss' : SS} (hm : ∀ x, ss.fr.mode = x → x ≠ .run) (h : sunwind P ss = some ss') (hv : Valid w0 ss'.st) :
    Valid w0 ss.st ∧ Moves P w0 ss ss' := by
  have key : ∀ cs w, stepG P true { frame := ss.fr, callers := cs, status := .running, dying := none } w = unwind P true ss.fr cs none w := by
    intro cs w
    unfold stepG
    cases hmode : ss.fr.mode with
    | run => exact absurd rfl (hm _ hmode)
    | returning => simp [hmode]
    | panicking c => simp [hmode]
  unfold sunwind at h
  split at h
  · rename_i d ds hd
    split at h
    · rename_i fv cap htg
      split at h
      · rename_i f args st hx
        rw [ent_eq] at h
        simp only [Option.some.injEq] at h; subst h
        obtain ⟨v2, g2⟩ := sx_sound P w0 _ _ _ _ hx (ok_valid hv)
        refine ⟨v2, fun F cs0 w g => ?_⟩
        obtain ⟨w', r1, r2, _⟩ := g2 F w g
        refine ⟨w', Steps.one (step_lone_go ?_), by simpa [St.ok] using r2⟩
        rw [key]
        obtain ⟨tg, as⟩ := d
        simp only at htg
        subst htg
        simp [unwind, hd, callDeferred, Sem.runT_eq, r1, SRes.in]
      · simp at h
    · simp at h
  · rename_i hd
    split at h
    · rename_i chain caller rest hmode hcs
      split at h
      · rename_i fn hfn
        simp only [Option.some.injEq] at h; subst h
        refine ⟨hv, .still rfl rfl fun cs0 w => ?_⟩
        rw [key]
        simp [unwind, hd, hmode, hcs, Frame.catches, lgetF hfn]
      · simp at h
    · rename_i caller rest hmode hcs
      split at h
      · rename_i fn hfn
        split at h
        · rename_i v st hx
          split at h
          · rename_i fr hb
            simp only [Option.some.injEq] at h; subst h
            obtain ⟨v2, g2⟩ := sx_sound P w0 _ _ _ _ hx (ok_valid hv)
            refine ⟨v2, fun F cs0 w g => ?_⟩
            obtain ⟨w', r1, r2, _⟩ := g2 F w g
            refine ⟨w', Steps.one (step_lone_go ?_), by simpa [St.ok] using r2⟩
            rw [key]
            simp only [unwind, hd, hmode, lgetF hfn, Sem.runT_eq, r1, SRes.in, hcs, List.cons_append, GStep.bare_after]
            rw [sback_eq rfl hb]
            rfl
          · simp at h
        · simp at h
      · simp at h
    · simp at h

theorem sstep_sound {P : Program} {stops : List Nat} {w0 : World} {ss ss' : SS} (h : sstep P stops ss = some ss') (hv : Valid w0 ss'.st) : Valid w0 ss.st ∧ Moves P w0 ss ss' := by
  unfold sstep at h
  split at h
  · rename_i ho hr hc
    split at h
    · rename_i hm
      exact sexec_sound hm hr h hv
    · rename_i hm
      exact sunwind_sound (fun x hx hr => hm (hx.trans hr)) h hv
  · simp at h

theorem srun_sound {P : Program} {stops : List Nat} {w0 : World} : ∀ (n : Nat) (ss : SS), Valid w0 (srun P stops n ss).st → Valid w0 ss.st ∧ Moves P w0 ss (srun P stops n ss)
  | 0, ss, hv => ⟨hv, Moves.refl _ _ _⟩
  | n + 1, ss, hv => by
    cases hs : sstep P stops ss with
    | some ss' =>
      simp only [srun, hs] at hv ⊢
      obtain ⟨v1, m1⟩ := srun_sound n ss' hv
      obtain ⟨v2, m2⟩ := sstep_sound hs v1
      exact ⟨v2, m2.trans m1⟩
    | none =>
      simp only [srun, hs] at hv ⊢
      exact ⟨hv, Moves.refl _ _ _⟩

/-! where nothing may be written the list stays -/

theorem fixed_ro {β : Type} {st : St} {d : Option Nat} {v : Value} {k : St → Value → β} {y : β} (h : fixed st d v k = y) :
    ∃ st' u, k st' u = y ∧ st'.s = st.s ∧ st'.L = st.L ∧ st'.ro = st.ro := by
  unfold fixed at h
  split at h
  · split at h
    · exact ⟨_, _, h, rfl, rfl, rfl⟩
    · exact ⟨_, _, h, rfl, rfl, rfl⟩
  · exact ⟨_, _, h, rfl, rfl, rfl⟩

structure Keeps (st st' : St) : Prop where
  ro : st'.ro = true
  s : st'.s = st.s
  L : st'.L = st.L

theorem Keeps.trans {a b c : St} (h : Keeps a b) (h' : Keeps b c) : Keeps a c := ⟨h'.ro, h'.s.trans h.s, h'.L.trans h.L⟩

/-- The list stays (the same proof as the ban's, for all three parts). -/
theorem sx_keeps (P : Program) {α : Type} (m : Sem α) : ∀ (st st' : St) (r : SRes α), sx P m st = some (r, st') → st.ro = true → Keeps st st' := by
  induction m with
  | pure a => intro st st' r h hro; simp [sx] at h; rw [← h.2]; exact ⟨hro, rfl, rfl⟩
  | halt x => intro st st' r h hro; simp [sx] at h; rw [← h.2]; exact ⟨hro, rfl, rfl⟩
  | program k ih => intro st st' r h hro; exact ih P st st' r (by simpa [sx] using h) hro
  | mark x k ih => intro st st' r h hro; exact ih st st' r (by simpa [sx] using h) hro
  | load x a k ih =>
    intro st st' r h hro
    simp only [sx] at h
    split at h
    · rename_i hp; obtain ⟨e1, e2, e3, e4, e5, e6⟩ := pick_same hp
      split at h
      · split at h
        · split at h
          · have := ih _ _ _ _ h (by simp [e3, hro]); exact ⟨this.ro, this.s.trans e1, this.L.trans e2⟩
          · simp at h
        · simp at h
      · simp at h
    · rename_i hp; obtain ⟨e1, e2, e3, e4, e5, e6⟩ := pick_same hp
      split at h
      · split at h
        · have := ih _ _ _ _ h (by simp [e3, hro]); exact ⟨this.ro, this.s.trans e1, this.L.trans e2⟩
        · simp at h
      · simp at h
    · rename_i hp; obtain ⟨e1, e2, e3, e4, e5, e6⟩ := pick_same hp
      have := ih _ _ _ _ h (by simp [e3, hro]); exact ⟨this.ro, this.s.trans e1, this.L.trans e2⟩
    · simp at h
  | store x a v k ih => intro st st' r h hro; simp [sx, hro] at h
  | new o k ih => intro st st' r h hro; simp [sx, hro] at h
  | shape b k ih =>
    intro st st' r h hro
    simp only [sx] at h
    split at h
    · rename_i hp; obtain ⟨e1, e2, e3, e4, e5, e6⟩ := pick_same hp
      split at h
      · have := ih _ _ _ _ h (by simp [e3, hro]); exact ⟨this.ro, this.s.trans e1, this.L.trans e2⟩
      · have := ih _ _ _ _ h (by simp [e3, hro]); exact ⟨this.ro, this.s.trans e1, this.L.trans e2⟩
      · simp at h
    · rename_i hp; obtain ⟨e1, e2, e3, e4, e5, e6⟩ := pick_same hp
      have := ih _ _ _ _ h (by simp [e3, hro]); exact ⟨this.ro, this.s.trans e1, this.L.trans e2⟩
    · simp at h
  | frozen a k ih =>
    intro st st' r h hro
    simp only [sx] at h
    split at h
    · rename_i hp; obtain ⟨e1, e2, e3, e4, e5, e6⟩ := pick_same hp
      split at h
      · have := ih _ _ _ _ h (by simp [e3, hro]); exact ⟨this.ro, this.s.trans e1, this.L.trans e2⟩
      · simp at h
    · rename_i hp; obtain ⟨e1, e2, e3, e4, e5, e6⟩ := pick_same hp
      have := ih _ _ _ _ h (by simp [e3, hro]); exact ⟨this.ro, this.s.trans e1, this.L.trans e2⟩
    · simp at h
  | getObj b k ih =>
    intro st st' r h hro
    simp only [sx] at h
    split at h
    · rename_i hp; obtain ⟨e1, e2, e3, e4, e5, e6⟩ := pick_same hp
      split at h
      · simp at h
      · have := ih _ _ _ _ h (by simp [e3, hro]); exact ⟨this.ro, this.s.trans e1, this.L.trans e2⟩
      · simp at h
    · simp at h
  | setObj b o k ih => intro st st' r h hro; simp [sx, hro] at h
  | freeze a n k ih => intro st st' r h hro; simp only [sx] at h; split at h <;> simp_all
  | choose q k ih => intro st st' r h hro; simp only [sx] at h; split at h; · exact ih _ _ _ _ h hro
                     · simp at h
  | sys c k ih => intro st st' r h; simp [sx] at h

theorem quiet_keeps {P : Program} {ops : Array Oper} {ds : List Deferred} : ∀ (os : List Oper) (l l' : List Value) (st st' : St), st.ro = true → quietOps P ops os l ds st = some (l', st') → Keeps st st'
  | [], l, l', st, st', hro, h => by
    simp only [quietOps, Option.some.injEq, Prod.mk.injEq] at h
    rw [← h.2]; exact ⟨hro, rfl, rfl⟩
  | o :: rest, l, l', st, st', hro, h => by
    simp only [quietOps] at h
    split at h
    · rw [forceL_eq] at h; exact quiet_keeps rest _ l' st st' hro h
    · split at h
      · rename_i v st1 hx
        obtain ⟨st2, u, hy, e1, e2, e3⟩ := fixed_ro h
        simp only [forceV_eq, forceL_eq] at hy
        have k1 := sx_keeps P _ _ _ _ hx hro
        have k2 := quiet_keeps rest _ l' st2 st' (by rw [e3]; exact k1.ro) hy
        exact ⟨k2.ro, k2.s.trans (e1.trans k1.s), k2.L.trans (e2.trans k1.L)⟩
      · rename_i st1 hx
        rw [forceL_eq] at h
        have k1 := sx_keeps P _ _ _ _ hx hro
        have k2 := quiet_keeps rest _ l' st1.ok st' k1.ro h
        exact ⟨k2.ro, k2.s.trans k1.s, k2.L.trans k1.L⟩
      · simp at h

theorem sopAny_keeps {P : Program} {stops : List Nat} {ss ss' : SS} {o : Oper} (hro : ss.st.ro = true) (h : sopAny P stops ss o = some ss') : Keeps ss.st ss'.st := by
  unfold sopAny at h
  split at h
  · rename_i v st hx
    have k1 := sx_keeps P _ _ _ _ hx hro
    obtain ⟨st', u, hy, e1, e2, e3⟩ := fixed_ro h
    split at hy
    · simp only [Option.some.injEq] at hy; subst hy; exact ⟨e3.trans k1.ro, e1.trans k1.s, e2.trans k1.L⟩
    · simp at hy
  · rename_i st hx
    have k1 := sx_keeps P _ _ _ _ hx hro
    split at h
    · simp only [Option.some.injEq] at h; subst h; exact ⟨k1.ro, k1.s, k1.L⟩
    · simp at h
  · rename_i f args st hx
    have k1 := sx_keeps P _ _ _ _ hx hro
    split at h
    · simp at h
    · rw [ent_eq] at h; simp only [Option.some.injEq] at h; subst h; exact ⟨k1.ro, k1.s, k1.L⟩
  · rename_i d st hx
    have k1 := sx_keeps P _ _ _ _ hx hro
    split at h
    · simp only [Option.some.injEq] at h; subst h; exact ⟨k1.ro, k1.s, k1.L⟩
    · simp at h
  · rename_i st hx
    have k1 := sx_keeps P _ _ _ _ hx hro
    split at h
    · split at h
      · simp only [Option.some.injEq] at h; subst h; exact ⟨k1.ro, k1.s, k1.L⟩
      · simp at h
    · split at h
      · split at h
        · simp only [Option.some.injEq] at h; subst h; exact ⟨k1.ro, k1.s, k1.L⟩
        · simp at h
      · split at h
        · simp only [Option.some.injEq] at h; subst h; exact ⟨k1.ro, k1.s, k1.L⟩
        · simp at h
      · simp at h
    · simp at h
  · rename_i v st hx
    have k1 := sx_keeps P _ _ _ _ hx hro
    simp only [forceV_eq, Option.some.injEq] at h; subst h; exact ⟨k1.ro, k1.s, k1.L⟩
  · simp at h

theorem sop_keeps {P : Program} {stops : List Nat} {ss ss' : SS} {o : Oper} (hro : ss.st.ro = true) (h : sop P stops ss o = some ss') : Keeps ss.st ss'.st := by
  unfold sop at h
  split at h
  · simp at h
  · exact sopAny_keeps hro h

theorem sstep_keeps {P : Program} {stops : List Nat} {ss ss' : SS} (hro : ss.st.ro = true) (h : sstep P stops ss = some ss') : Keeps ss.st ss'.st := by
  have same : ∀ {x : SS}, some x = some ss' → x.st = ss.st → Keeps ss.st ss'.st := by
    intro x e hx
    simp only [Option.some.injEq] at e; subst e
    rw [hx]; exact ⟨hro, rfl, rfl⟩
  unfold sstep at h
  split at h
  · split at h
    · unfold sexec at h
      split at h
      · exact same h rfl
      · exact same h rfl
      · exact same h rfl
      · exact same h rfl
      · exact same h rfl
      · exact same h rfl
      · exact same h rfl
      · split at h
        · split at h
          · simp only [Option.some.injEq] at h; subst h; exact ⟨hro, rfl, rfl⟩
          · simp only [Option.some.injEq] at h; subst h; exact ⟨hro, rfl, rfl⟩
          · simp at h
        · simp at h
      · exact same h rfl
      · split at h
        · simp only [Option.some.injEq] at h; subst h; exact ⟨hro, rfl, rfl⟩
        · simp at h
      · split at h
        · simp only [Option.some.injEq] at h; subst h; exact ⟨hro, rfl, rfl⟩
        · simp at h
      · exact same h rfl
      · split at h
        · exact same h rfl
        · simp at h
      · split at h
        · exact same h rfl
        · simp at h
      · exact same h rfl
      · split at h
        · split at h
          · split at h
            · rename_i l st hq
              simp only [Option.some.injEq] at h; subst h
              have k := quiet_keeps _ _ _ _ _ rfl hq
              exact ⟨hro, k.s, k.L⟩
            · simp at h
          · simp at h
        · simp at h
      · exact same h rfl
      · split at h
        · split at h
          · exact sop_keeps hro h
          · split at h
            · exact same h rfl
            · simp at h
        · simp at h
      · simp at h
    · unfold sunwind at h
      split at h
      · split at h
        · split at h
          · rename_i hx
            have k1 := sx_keeps P _ _ _ _ hx hro
            rw [ent_eq] at h; simp only [Option.some.injEq] at h; subst h; exact ⟨k1.ro, k1.s, k1.L⟩
          · simp at h
        · simp at h
      · split at h
        · split at h
          · exact same h rfl
          · simp at h
        · split at h
          · split at h
            · rename_i hx
              have k1 := sx_keeps P _ _ _ _ hx hro
              split at h
              · simp only [Option.some.injEq] at h; subst h; exact ⟨k1.ro, k1.s, k1.L⟩
              · simp at h
            · simp at h
          · simp at h
        · simp at h
  · simp at h

theorem srun_keeps {P : Program} {stops : List Nat} : ∀ (n : Nat) (ss : SS), ss.st.ro = true → Keeps ss.st (srun P stops n ss).st
  | 0, ss, hro => ⟨hro, rfl, rfl⟩
  | n + 1, ss, hro => by
    cases hs : sstep P stops ss with
    | some ss' =>
      simp only [srun, hs]
      have k1 := sstep_keeps hro hs
      exact k1.trans (srun_keeps n ss' k1.ro)
    | none =>
      simp only [srun, hs]
      exact ⟨hro, rfl, rfl⟩

end Go.Sx
