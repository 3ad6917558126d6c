/- The reckoner of this claim's walks, its seventh part: what a proof of a contract is made of. -/
import Derived.Test.YthknahhbbhbgoaaGreatDoorSx6
namespace Go.Sx
open Go

/-- From every world that the list fits (beside what is framed) the machine comes to what is wanted. -/
def Goes (P : Program) (w0 : World) (F : List (Nat × Obj)) (cs0 : List Frame) (Φ : Machine → Prop) (fr : Frame) (cs : List Frame) (s : Nat) (L : List (Nat × Obj)) : Prop :=
  ∀ w, Good w0 s (L ++ F) w → ∃ m', Steps P (lone fr (cs ++ cs0) w) m' ∧ Φ m'

section
variable {P : Program} {w0 : World} {F : List (Nat × Obj)} {cs0 : List Frame} {Φ : Machine → Prop}

theorem Goes.of_moves {ss ss' : SS} (h : Moves P w0 ss ss') (k : Goes P w0 F cs0 Φ ss'.fr ss'.cs ss'.st.s ss'.st.L) : Goes P w0 F cs0 Φ ss.fr ss.cs ss.st.s ss.st.L := fun w g =>
  let ⟨w1, s1, g1⟩ := h F cs0 w g
  let ⟨m, s2, hm⟩ := k w1 g1
  ⟨m, s1.trans s2, hm⟩

/-- What a run leaves, without what it owes on blocks. -/
structure Pack where
  fr : Frame
  cs : List Frame
  s : Nat
  L : List (Nat × Obj)
  orc : List An
  ob : List Ob

def SS.pack (ss : SS) : Pack := ⟨ss.fr, ss.cs, ss.st.s, ss.st.L, ss.st.orc, ss.st.ob⟩

def start0 (fr : Frame) (cs : List Frame) (s : Nat) (L : List (Nat × Obj)) (orc : List An) : SS := ⟨fr, cs, ⟨s, L, orc, none, false, [], [], []⟩, false⟩

/-- A stretch that the reckoner runs. -/
theorem Goes.seg {fr : Frame} {cs : List Frame} {s : Nat} {L : List (Nat × Obj)} (stops : List Nat) (n : Nat) (orc : List An) {fr' : Frame} {cs' : List Frame} {s' : Nat} {L' : List (Nat × Obj)} {ob : List Ob}
    (h : (srun P stops n (start0 fr cs s L orc)).pack = ⟨fr', cs', s', L', [], ob⟩)
    (he : (srun P stops n (start0 fr cs s L orc)).st.lhs = (srun P stops n (start0 fr cs s L orc)).st.rhs)
    (hob : Obs w0 ob) (k : Goes P w0 F cs0 Φ fr' cs' s' L') : Goes P w0 F cs0 Φ fr cs s L := by
  have hv : Valid w0 (srun P stops n (start0 fr cs s L orc)).st := ⟨he, by
    have : (srun P stops n (start0 fr cs s L orc)).st.ob = ob := congrArg Pack.ob h
    rw [this]; exact hob⟩
  obtain ⟨_, m⟩ := srun_sound n _ hv
  refine Goes.of_moves m ?_
  have e1 : (srun P stops n (start0 fr cs s L orc)).fr = fr' := congrArg Pack.fr h
  have e2 : (srun P stops n (start0 fr cs s L orc)).cs = cs' := congrArg Pack.cs h
  have e3 : (srun P stops n (start0 fr cs s L orc)).st.s = s' := congrArg Pack.s h
  have e4 : (srun P stops n (start0 fr cs s L orc)).st.L = L' := congrArg Pack.L h
  rw [e1, e2, e3, e4]
  exact k

/-- A function's end: it returns. -/
def Ends (P : Program) (f : FuncId) (R : Ending → World → Prop) (cs0 : List Frame) (m : Machine) : Prop :=
  ∃ v w' fr, R (.returned v) w' ∧ m = lone fr cs0 w' ∧ fr.fn = f ∧ fr.leaving P w' (.returned v)

/-- The reckoner's own look at the end. -/
def leave (P : Program) (f : FuncId) (ss : SS) : Option (Value × St) :=
  match ss.fr.mode, ss.fr.kind, ss.fr.defers, ss.cs, Nat.beq ss.fr.fn f with
  | .returning, .normal, [], [], true =>
    match lget P.funcs.toList ss.fr.fn with
    | some fn =>
      match sx P (results fn ss.fr.tmps) { ss.st with ro := true, cur := none } with
      | some (.ok v, st) => some (v, st)
      | _ => none
    | none => none
  | _, _, _, _, _ => none

structure Pack2 where
  v : Value
  s : Nat
  L : List (Nat × Obj)
  orc : List An
  ob : List Ob

def pack2 : Option (Value × St) → Option Pack2
  | some (v, st) => some ⟨v, st.s, st.L, st.orc, st.ob⟩
  | none => none

def lhs2 : Option (Value × St) → List Nat
  | some (_, st) => st.lhs
  | none => []
def rhs2 : Option (Value × St) → List Nat
  | some (_, st) => st.rhs
  | none => []

/-- The last stretch. -/
theorem Goes.last {f : FuncId} {R : Ending → World → Prop} {fr : Frame} {cs : List Frame} {s : Nat} {L : List (Nat × Obj)} (stops : List Nat) (n : Nat) (orc : List An) {v : Value} {s' : Nat} {L' : List (Nat × Obj)} {ob : List Ob}
    (h : pack2 (leave P f (srun P stops n (start0 fr cs s L orc))) = some ⟨v, s', L', [], ob⟩)
    (he : lhs2 (leave P f (srun P stops n (start0 fr cs s L orc))) = rhs2 (leave P f (srun P stops n (start0 fr cs s L orc))))
    (hob : Obs w0 ob) (k : ∀ w', Good w0 s' (L' ++ F) w' → R (.returned v) w') : Goes P w0 F cs0 (Ends P f R cs0) fr cs s L := by
  generalize hss : srun P stops n (start0 fr cs s L orc) = ss at *
  unfold leave at h he
  split at h
  · rename_i hmode hkind hdef hcs hfn
    simp only at he
    split at h
    · rename_i fn hf
      simp only [hf] at he
      split at h
      · rename_i v' st hx
        simp only [pack2, Option.some.injEq, Pack2.mk.injEq] at h
        obtain ⟨rfl, rfl, rfl, hor, rfl⟩ := h
        simp only [hmode, hkind, hdef, hcs, hfn, hx, lhs2, rhs2] at he
        have hv : Valid w0 st := ⟨he, hob⟩
        obtain ⟨v1, g1⟩ := sx_sound P w0 _ _ _ _ hx hv
        obtain ⟨r1, r2, r3, g2⟩ := sx_ro P w0 _ _ _ _ rfl hx hv
        have hv0 : Valid w0 ss.st := ⟨v1.eq, v1.obs⟩
        obtain ⟨_, mv⟩ := srun_sound (stops := stops) n (start0 fr cs s L orc) (by rw [hss]; exact hv0)
        intro w g
        obtain ⟨w1, s1, gw⟩ := mv F cs0 w g
        rw [hss] at s1 gw
        refine ⟨_, s1, _, w1, ss.fr, k w1 (by rw [r2, r3]; exact gw), by rw [hcs]; rfl, Nat.eq_of_beq_eq_true hfn, hmode, hdef, hkind, fn, lgetF hf, ?_⟩
        exact g2 F w1 gw
      · simp [pack2] at h
    · simp [pack2] at h
  · simp [pack2] at h

theorem Goes.calls {f : FuncId} {args : Array Value} {R : Ending → World → Prop} {s : Nat} {L : List (Nat × Obj)} {w : World} (g : Good w0 s (L ++ F) w)
    (h : ∀ cs0, Goes P w0 F cs0 (Ends P f R cs0) (Frame.enter P f args .normal) [] s L) : Calls P f args w R := fun cs =>
  let ⟨m, hs, v, w', fr, hR, hm, hfn, hl⟩ := h cs w g
  ⟨.returned v, w', fr, hR, by subst hm; exact hs, hfn, hl⟩

/-- A function that the reckoner runs to its end. -/
theorem calls_of_leave {f : FuncId} {args : Array Value} {st st' : St} {n : Nat} {v : Value} (h : leave P f (srun P [] n ⟨Frame.enter P f args .normal, [], st, false⟩) = some (v, st')) (hv : Valid w0 st')
    {w : World} (g : Good w0 st.s (st.L ++ F) w) : Calls P f args w fun e w' => e = .returned v ∧ Good w0 st'.s (st'.L ++ F) w' := by
  intro cs
  generalize hss : srun P [] n ⟨Frame.enter P f args .normal, [], st, false⟩ = ss at h
  unfold leave at h
  split at h
  · rename_i hmode hkind hdef hcs hfn
    split at h
    · rename_i fn hf
      split at h
      · rename_i v' st2 hx
        simp only [Option.some.injEq, Prod.mk.injEq] at h
        obtain ⟨rfl, rfl⟩ := h
        obtain ⟨v1, _⟩ := sx_sound P w0 _ _ _ _ hx hv
        obtain ⟨_, r2, r3, g2⟩ := sx_ro P w0 _ _ _ _ rfl hx hv
        have hv1 : Valid w0 ss.st := ⟨v1.eq, v1.obs⟩
        obtain ⟨_, mv⟩ := srun_sound (stops := []) n ⟨Frame.enter P f args .normal, [], st, false⟩ (by rw [hss]; exact hv1)
        obtain ⟨w1, s1, gw⟩ := mv F cs w g
        rw [hss] at s1 gw
        refine ⟨.returned v', w1, ss.fr, ⟨rfl, by rw [r2, r3]; exact gw⟩, ?_, Nat.eq_of_beq_eq_true hfn, hmode, hdef, hkind, fn, lgetF hf, g2 F w1 gw⟩
        rw [hcs] at s1
        exact s1
      · simp at h
    · simp at h
  · simp at h

/-- A call that a contract serves: the frame waits for what comes back. -/
theorem Goes.call {f : FuncId} {args : Array Value} {c : Frame} {cs : List Frame} {s : Nat} {L : List (Nat × Obj)} {ι : Type} (R : ι → Value × Nat × List (Nat × Obj))
    (h : ∀ w, Good w0 s (L ++ F) w → Calls P f args w fun e w' => ∃ x, e = .returned (R x).1 ∧ Good w0 (R x).2.1 ((R x).2.2 ++ F) w')
    (k : ∀ x, Goes P w0 F cs0 Φ (c.finish (R x).1) cs (R x).2.1 (R x).2.2) :
    Goes P w0 F cs0 Φ (Frame.enter P f args .normal) (c :: cs) s L := fun w g => by
  obtain ⟨e, w', fr, ⟨x, he, g'⟩, hc, hfn, hl⟩ := h w g ((c :: cs) ++ cs0)
  subst he
  obtain ⟨m, hs, hΦ⟩ := k x w' g'
  exact ⟨m, Steps.trans hc (Steps.head (step_leave_returned hl) hs), hΦ⟩

theorem Goes.weak {fr : Frame} {cs : List Frame} {s : Nat} {L L' : List (Nat × Obj)} (hs : ∀ F w, Good w0 s (L ++ F) w → Good w0 s (L' ++ F) w) (k : Goes P w0 F cs0 Φ fr cs s L') : Goes P w0 F cs0 Φ fr cs s L :=
  fun w g => k w (hs F w g)

/-- Some entries of a list, by their places. -/
def pick (L : List (Nat × Obj)) : List Nat → Option (List (Nat × Obj))
  | [] => some []
  | i :: is =>
    match lget L i, pick L is with
    | some p, some l => some (p :: l)
    | _, _ => none

def distinct : List Nat → Bool
  | [] => true
  | i :: is => !(is.elem i) && distinct is

theorem pick_mem {L : List (Nat × Obj)} : ∀ {is : List Nat} {L' : List (Nat × Obj)}, pick L is = some L' → ∀ p ∈ L', ∃ i ∈ is, L[i]? = some p
  | [], L', h => by simp [pick] at h; subst h; simp
  | i :: is, L', h => by
    simp only [pick] at h
    split at h
    · rename_i p l hp hl
      simp only [Option.some.injEq] at h; subst h
      intro q hq
      rcases List.mem_cons.1 hq with rfl | hq
      · exact ⟨i, by simp, by rw [← lget_eq]; exact hp⟩
      · obtain ⟨j, hj, hj'⟩ := pick_mem hl q hq
        exact ⟨j, by simp [hj], hj'⟩
    · simp at h

theorem nodup_idx {L : List (Nat × Obj)} (hn : (L.map (·.1)).Nodup) {i j : Nat} {p q : Nat × Obj} (hi : L[i]? = some p) (hj : L[j]? = some q) (h : p.1 = q.1) : i = j := by
  have h1 : (L.map (·.1))[i]? = some p.1 := by simp [hi]
  have h2 : (L.map (·.1))[j]? = some q.1 := by simp [hj]
  have hil : i < (L.map (·.1)).length := (List.getElem?_eq_some_iff.1 h1).1
  exact (List.getElem?_inj hil hn).1 (by rw [h1, h2, h])

theorem pick_nodup {L : List (Nat × Obj)} (hn : (L.map (·.1)).Nodup) : ∀ {is : List Nat} {L' : List (Nat × Obj)}, pick L is = some L' → distinct is = true → (L'.map (·.1)).Nodup
  | [], L', h, _ => by simp [pick] at h; subst h; simp
  | i :: is, L', h, hd => by
    simp only [distinct, Bool.and_eq_true, Bool.not_eq_true', List.elem_eq_mem, decide_eq_false_iff_not] at hd
    simp only [pick] at h
    split at h
    · rename_i p l hp hl
      simp only [Option.some.injEq] at h; subst h
      simp only [List.map_cons, List.nodup_cons]
      refine ⟨?_, pick_nodup hn hl hd.2⟩
      intro hm
      obtain ⟨q, hq, e⟩ := List.mem_map.1 hm
      obtain ⟨j, hj, hj'⟩ := pick_mem hl q hq
      have := nodup_idx hn (by rw [← lget_eq]; exact hp) hj' e.symm
      exact hd.1 (this ▸ hj)
    · simp at h

theorem Good.picked {w0 w : World} {s : Nat} {L L' F : List (Nat × Obj)} (is : List Nat) (h : pick L is = some L') (hd : distinct is = true) (g : Good w0 s (L ++ F) w) : Good w0 s (L' ++ F) w := by
  have hn := g.nodup
  rw [List.map_append] at hn
  have hn' := List.nodup_append.1 hn
  refine g.sub (fun p hp => ?_) ?_
  · rcases List.mem_append.1 hp with hp | hp
    · obtain ⟨i, _, hi⟩ := pick_mem h p hp
      exact List.mem_append_left _ (List.mem_of_getElem? hi)
    · exact List.mem_append_right _ hp
  · rw [List.map_append]
    refine List.nodup_append.2 ⟨pick_nodup hn'.1 h hd, hn'.2.1, ?_⟩
    intro a ha b hb
    obtain ⟨q, hq, rfl⟩ := List.mem_map.1 ha
    obtain ⟨i, _, hi⟩ := pick_mem h q hq
    exact hn'.2.2 _ (List.mem_map_of_mem (List.mem_of_getElem? hi)) _ hb

theorem Goes.pick {fr : Frame} {cs : List Frame} {s : Nat} {L L' : List (Nat × Obj)} (is : List Nat) (h : Sx.pick L is = some L') (hd : distinct is = true) (k : Goes P w0 F cs0 Φ fr cs s L') :
    Goes P w0 F cs0 Φ fr cs s L := Goes.weak (fun _ _ g => g.picked is h hd) k

/-- A loop: from each state of the family the machine comes to the end or to a lesser state of the family. -/
theorem Goes.loop {ι : Type} (S : ι → Frame × List Frame × Nat × List (Nat × Obj)) (μ : ι → Nat)
    (h : ∀ i, (∀ j, μ j < μ i → Goes P w0 F cs0 Φ (S j).1 (S j).2.1 (S j).2.2.1 (S j).2.2.2) → Goes P w0 F cs0 Φ (S i).1 (S i).2.1 (S i).2.2.1 (S i).2.2.2) (i : ι) :
    Goes P w0 F cs0 Φ (S i).1 (S i).2.1 (S i).2.2.1 (S i).2.2.2 := by
  generalize hn : μ i = n
  induction n using Nat.strongRecOn generalizing i with
  | _ n ih => exact h i fun j hj => ih (μ j) (hn ▸ hj) j rfl

/-- At a loop's head, whether it is met the first time or again. -/
theorem Goes.head {body : Code} {k : List Item} {fr : Frame} {cs : List Frame} {s : Nat} {L : List (Nat × Obj)} (hm : fr.mode = .run) (h : Goes P w0 F cs0 Φ { fr with todo := .code body :: .inLoop body :: k } cs s L) :
    Goes P w0 F cs0 Φ { fr with todo := .code (.loop body) :: k } cs s L ∧ Goes P w0 F cs0 Φ { fr with todo := .inLoop body :: k } cs s L :=
  ⟨fun w g => let ⟨m, hs, hΦ⟩ := h w g; ⟨m, Steps.head (step_lone_go (by simp [stepG, stepG.exec, hm])) hs, hΦ⟩,
   fun w g => let ⟨m, hs, hΦ⟩ := h w g; ⟨m, Steps.head (step_lone_go (by simp [stepG, stepG.exec, hm])) hs, hΦ⟩⟩

end

/-! places in a function's code -/

def sub (c : Code) : List Nat → Code
  | [] => c
  | i :: is =>
    match c, i with
    | .seq a _, 0 => sub a is
    | .seq _ b, _ => sub b is
    | .cond _ a _, 0 => sub a is
    | .cond _ _ b, _ => sub b is
    | .block _ b, _ => sub b is
    | .loop b, _ => sub b is
    | .scope b, _ => sub b is
    | _, _ => .skip

def opsOf : Code → Array Oper
  | .region _ ops _ => ops
  | _ => #[]

def bodyOf (P : Program) (f : Nat) : Code :=
  match lget P.funcs.toList f with
  | some fn => fn.body.getD .skip
  | none => .skip

def codeAt (P : Program) (f : Nat) (path : List Nat) : Code := sub (bodyOf P f) path
def opsAt (P : Program) (f : Nat) (path : List Nat) : Array Oper := opsOf (sub (bodyOf P f) path)

end Go.Sx
