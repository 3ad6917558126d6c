/- The reckoner of this claim's walks, its tenth part: a region that draws its order, whatever its operations do. -/
import Derived.Test.YthknahhbbhbgoaaGreatDoorSx9
namespace Go.Sx
open Go

theorem splitL_eq {α : Type} : ∀ (l : List α) (n : Nat) (x y : List α), splitL l n = some (x, y) → l = x ++ y
  | l, 0, x, y, h => by cases l <;> simp [splitL] at h <;> simp [h.1, h.2]
  | [], n + 1, x, y, h => by simp [splitL] at h
  | a :: l, n + 1, x, y, h => by
    simp only [splitL] at h
    split at h
    · rename_i u v hs
      simp only [Option.some.injEq, Prod.mk.injEq] at h
      obtain ⟨rfl, rfl⟩ := h
      rw [splitL_eq l n _ _ hs]
      rfl
    · simp at h

/-- What a run owed at its start it owes at its end. -/
theorem leave_valid {P : Program} {w0 : World} {f : FuncId} {n : Nat} {ss : SS} {v : Value} {st' : St} (h : leave P f (srun P [] n ss) = some (v, st')) (hv : Valid w0 st') : Valid w0 ss.st := by
  unfold leave at h
  split at h
  · split at h
    · split at h
      · rename_i hx
        simp only [Option.some.injEq, Prod.mk.injEq] at h
        obtain ⟨rfl, rfl⟩ := h
        obtain ⟨v1, _⟩ := sx_sound P w0 _ _ _ _ hx hv
        exact (srun_sound (stops := []) n ss ⟨v1.eq, v1.obs⟩).1
      · simp at h
    · simp at h
  · simp at h

theorem leave_keeps {P : Program} {w0 : World} {f : FuncId} {n : Nat} {ss : SS} {v : Value} {st' : St} (h : leave P f (srun P [] n ss) = some (v, st')) (hv : Valid w0 st') (hro : ss.st.ro = true) : Keeps ss.st st' ∧ Valid w0 ss.st := by
  refine ⟨?_, leave_valid h hv⟩
  unfold leave at h
  split at h
  · split at h
    · split at h
      · rename_i hx
        simp only [Option.some.injEq, Prod.mk.injEq] at h
        obtain ⟨rfl, rfl⟩ := h
        have k1 := srun_keeps (P := P) (stops := []) n ss hro
        have k2 := sx_keeps P _ _ _ _ hx rfl
        exact ⟨k2.ro, k2.s.trans k1.s, k2.L.trans k1.L⟩
      · simp at h
    · simp at h
  · simp at h

section
variable {U : Type} {P : Program} {sz : U → Nat} {ops : Array Oper} {ds : List Deferred} {ans : List (RA U)} {w0 : World}

theorem exec_wp {Q : Exit → Act → World → Prop} {K : Act → World → Prop} {S : RS} {i : Nat} {F : List (Nat × Obj)} {s : Nat} {w : World} (hsz : ∀ n, ∃ u, sz u = n)
    (hall : ∀ u, ∃ S' b, exec P sz ops ds ans S i u = some (S', b) ∧ b.holds P w0 F sz) (g : Good w0 s (live S.H ++ F) w)
    (hK : ∀ u S' b s' w', exec P sz ops ds ans S i u = some (S', b) → Good w0 s' (live S'.H ++ F) w' → K ⟨⟨S'.T⟩, ds⟩ w') : wpOp P ops Q i K ⟨⟨S.T⟩, ds⟩ w := by
  obtain ⟨u, hu⟩ := hsz s
  obtain ⟨S', b, he, hb⟩ := hall u
  have hE := he
  unfold exec at he
  split at he
  · rename_i o a ho ha
    have ho' : ops[i]? = some o := by rwa [lget_eq, Array.getElem?_toList] at ho
    split at he
    · rename_i wrc H1 hw
      split at he
      · rename_i rdc H1' hr
        have p1 := takeS_perm _ _ _ _ hw
        have p2 := takeS_perm _ _ _ _ hr
        have g1 : Good w0 s (rdc ++ (wrc ++ (live H1' ++ F))) w := g.perm (by
          refine List.Perm.trans ?_ (List.Perm.append_right F (p1.trans (List.Perm.append_left wrc p2)).symm)
          simp only [List.append_assoc]
          refine List.perm_append_comm_assoc rdc wrc _)
        split at he
        · rename_i r hc
          split at he
          · rename_i H2 hp
            split at he
            · rename_i H3 hq
              simp only [forceL_eq, Option.some.injEq, Prod.mk.injEq] at he
              obtain ⟨he1, he2⟩ := he
              -- what is put back
              have back : ∀ (s' : Nat) (w' : World) (x y : List (Nat × Obj)) (H2 H3 : SH), putS H1 a.wr x = some H2 → putS H2 a.new y = some H3 → Good w0 s' (rdc ++ (x ++ (y ++ (live H1' ++ F)))) w' → Good w0 s' (live H3 ++ F) w' := by
                intro s' w' x y H2 H3 hp hq g'
                have q1 := putS_perm _ _ _ _ hp
                have q2 := putS_perm _ _ _ _ hq
                refine g'.perm ?_
                refine List.Perm.trans (List.Perm.append_right F (q2.trans (List.Perm.append_left y (q1.trans (List.Perm.append_left x p2))))) ?_
                simp only [List.append_assoc]
                refine List.Perm.trans (List.perm_append_comm_assoc y x _) ?_
                refine List.Perm.trans (List.Perm.append_left x (List.perm_append_comm_assoc y rdc _)) ?_
                exact List.perm_append_comm_assoc x rdc _
              have hco := hc
              unfold core at hc
              unfold wpOp
              simp only [ho']
              split at hc
              · -- not wanted
                rename_i hwd
                simp only [Option.some.injEq] at hc
                subst hc
                simp only [hwd]
                have := hK u S' b s w hE (by
                  rw [← he1]
                  exact back s w [] [] H2 H3 hp hq (by
                    simp only [RA.wr, takeS, Option.some.injEq, Prod.mk.injEq] at hw
                    obtain ⟨rfl, rfl⟩ := hw
                    simpa using g1))
                rw [← he1] at this
                rw [put_eq]
                exact this
              · simp at hc
              · -- read only
                rename_i rd orc hwd
                simp only [RA.wr, RA.new] at hw hp hq
                simp only [takeS, Option.some.injEq, Prod.mk.injEq] at hw
                obtain ⟨rfl, rfl⟩ := hw
                simp only [hwd, if_true]
                split at hc
                · rename_i v st hx
                  obtain ⟨st', v', hy, e1, e2, e3, e4, e5⟩ := fixed_spec (w0 := w0) hc
                  simp only [forceV_eq, Option.some.injEq] at hy
                  subst hy
                  have hbv : Valid w0 st' := ⟨by have := hb.1; rw [← he2] at this; exact this, by have := hb.2.1; rw [← he2] at this; exact this⟩
                  obtain ⟨v2, rfl⟩ := e4 hbv
                  have ro := sx_ro P w0 _ _ _ _ rfl hx (ok_valid v2)
                  refine .inl ?_
                  unfold Oper.wp
                  rw [ro.2.2.2 _ w (by rw [hu]; simpa using g1)]
                  simp only [SRes.in, Oper.upon]
                  rw [put_eq]
                  have := hK u S' b s w hE (by rw [← he1]; exact back s w [] [] H2 H3 hp hq (by simpa using g1))
                  rw [← he1] at this
                  exact this
                · rename_i st hx
                  simp only [Option.some.injEq] at hc
                  subst hc
                  have hbv : Valid w0 st := ⟨by have := hb.1; rw [← he2] at this; exact this, by have := hb.2.1; rw [← he2] at this; exact this⟩
                  have ro := sx_ro P w0 _ _ _ _ rfl hx hbv
                  refine .inl ?_
                  unfold Oper.wp
                  rw [ro.2.2.2 _ w (by rw [hu]; simpa using g1)]
                  simp only [SRes.in, Oper.upon]
                  rw [put_eq]
                  have := hK u S' b s w hE (by rw [← he1]; exact back s w [] [] H2 H3 hp hq (by simpa using g1))
                  rw [← he1] at this
                  exact this
                · simp at hc
              · -- writes
                rename_i wr new orc hwd
                simp only [RA.wr, RA.new, RA.rd] at hw hp hq hr
                simp only [takeS, Option.some.injEq, Prod.mk.injEq] at hr
                obtain ⟨rfl, rfl⟩ := hr
                simp only [hwd, if_true]
                split at hc
                · rename_i v st hx
                  obtain ⟨st', v', hy, e1, e2, e3, e4, e5⟩ := fixed_spec (w0 := w0) hc
                  simp only [forceV_eq] at hy
                  split at hy
                  · rename_i x y hsp
                    simp only [Option.some.injEq] at hy
                    subst hy
                    have hbv : Valid w0 st' := ⟨by have := hb.1; rw [← he2] at this; exact this, by have := hb.2.1; rw [← he2] at this; exact this⟩
                    obtain ⟨v2, rfl⟩ := e4 hbv
                    obtain ⟨_, gs⟩ := sx_sound P w0 _ _ _ _ hx (ok_valid v2)
                    obtain ⟨w', r1, r2, _⟩ := gs (live H1 ++ F) w (by rw [hu]; simpa using g1)
                    refine .inl ?_
                    unfold Oper.wp
                    rw [r1]
                    simp only [SRes.in, Oper.upon]
                    rw [put_eq]
                    have hL := splitL_eq _ _ _ _ hsp
                    rw [e2, show st.ok.L = st.L from rfl] at hL
                    rw [hL] at r2
                    have := hK u S' b _ w' hE (by rw [← he1]; exact back _ w' x y H2 H3 hp hq (by simpa using r2))
                    rw [← he1] at this
                    exact this
                  · simp at hy
                · rename_i st hx
                  split at hc
                  · rename_i x y hsp
                    simp only [Option.some.injEq] at hc
                    subst hc
                    have hbv : Valid w0 st := ⟨by have := hb.1; rw [← he2] at this; exact this, by have := hb.2.1; rw [← he2] at this; exact this⟩
                    obtain ⟨_, gs⟩ := sx_sound P w0 _ _ _ _ hx hbv
                    obtain ⟨w', r1, r2, _⟩ := gs (live H1 ++ F) w (by rw [hu]; simpa using g1)
                    refine .inl ?_
                    unfold Oper.wp
                    rw [r1]
                    simp only [SRes.in, Oper.upon]
                    rw [put_eq]
                    have hL := splitL_eq _ _ _ _ hsp
                    rw [hL] at r2
                    have := hK u S' b _ w' hE (by rw [← he1]; exact back _ w' x y H2 H3 hp hq (by simpa using r2))
                    rw [← he1] at this
                    exact this
                  · simp at hc
                · simp at hc
              · -- a call
                rename_i rd wr new f res hwd
                simp only [RA.wr, RA.new, RA.rd] at hw hp hq hr
                simp only [hwd, if_true]
                split at hc
                · rename_i f' args st hx
                  split at hc
                  · rename_i hf
                    simp only [forceVs_eq, Option.some.injEq] at hc
                    subst hc
                    have hff := Nat.eq_of_beq_eq_true hf
                    subst hff
                    have hbv : Valid w0 st := ⟨by have := hb.1; rw [← he2] at this; exact this, by have := hb.2.1; rw [← he2] at this; exact this⟩
                    have ro := sx_ro P w0 _ _ _ _ rfl hx hbv
                    refine .inl ?_
                    unfold Oper.wp
                    rw [ro.2.2.2 (live S.H ++ F) w (by rw [hu]; simpa using g)]
                    simp only [SRes.in, Oper.upon]
                    have hcall := hb.2.2.1 ⟨f, args.toList, rdc, wrc, res⟩ (by rw [← he2]; simp)
                    refine (hcall s (live H1') w g1).mono ?_
                    rintro e w' ⟨u', s', hu', rfl, g'⟩
                    simp only []
                    rw [put_eq]
                    obtain ⟨Su, bu, hEu, hbu⟩ := hall u'
                    have hEu' := hEu
                    unfold exec at hEu'
                    simp only [ho, ha, RA.wr, RA.rd, RA.new, hw, hr] at hEu'
                    have hc' : core P sz ops ds o (RA.call rd wr new f res) S.T rdc wrc u' = some ⟨(res u').1, (res u').2.1, (res u').2.2, ⟨st.lhs, st.rhs, st.ob, [⟨f, args.toList, rdc, wrc, res⟩], []⟩⟩ := by
                      unfold core
                      simp only [hwd]
                      rw [hu', ← hu, hx]
                      simp [forceVs_eq]
                    rw [hc'] at hEu'
                    simp only [] at hEu'
                    split at hEu'
                    · rename_i H2u hpu
                      split at hEu'
                      · rename_i H3u hqu
                        simp only [forceL_eq, Option.some.injEq, Prod.mk.injEq] at hEu'
                        have := hK u' Su bu s' w' hEu (by rw [← hEu'.1]; exact back s' w' _ _ H2u H3u hpu hqu (by simpa using g'))
                        rw [← hEu'.1] at this
                        exact this
                      · simp at hEu'
                    · simp at hEu'
                  · simp at hc
                · simp at hc
              · -- by hand
                rename_i rd wr new res hwd
                simp only [RA.wr, RA.new, RA.rd] at hw hp hq hr
                simp only [hwd, if_true]
                simp only [Option.some.injEq] at hc
                subst hc
                have hhand := hb.2.2.2 ⟨execOp (Act.eval ⟨⟨S.T⟩, ds⟩) o, rdc, wrc, res⟩ (by rw [← he2]; simp)
                obtain ⟨u', s', w', hu', hrun, g'⟩ := hhand s (live H1' ++ F) w g1
                refine .inl ?_
                unfold Oper.wp
                simp only [] at hrun
                rw [hrun]
                simp only [Oper.upon]
                rw [put_eq]
                obtain ⟨Su, bu, hEu, hbu⟩ := hall u'
                have hEu' := hEu
                unfold exec at hEu'
                simp only [ho, ha, RA.wr, RA.rd, RA.new, hw, hr] at hEu'
                unfold core at hEu'
                simp only [hwd] at hEu'
                split at hEu'
                · rename_i H2u hpu
                  split at hEu'
                  · rename_i H3u hqu
                    simp only [forceL_eq, Option.some.injEq, Prod.mk.injEq] at hEu'
                    have := hK u' Su bu s' w' hEu (by rw [← hEu'.1]; exact back s' w' _ _ H2u H3u hpu hqu (by simpa using g'))
                    rw [← hEu'.1] at this
                    exact this
                  · simp at hEu'
                · simp at hEu'
              · -- a call run through, that only reads
                rename_i rd n orc hwd
                simp only [RA.wr, RA.new, RA.rd] at hw hp hq hr
                simp only [takeS, Option.some.injEq, Prod.mk.injEq] at hw
                obtain ⟨rfl, rfl⟩ := hw
                simp only [hwd, if_true]
                split at hc
                · rename_i f args st hx
                  rw [ent_eq] at hc
                  split at hc
                  · rename_i v st2 hl
                    simp only [forceV_eq, Option.some.injEq] at hc
                    subst hc
                    have hbv : Valid w0 st2 := ⟨by have := hb.1; rw [← he2] at this; exact this, by have := hb.2.1; rw [← he2] at this; exact this⟩
                    have hcall := calls_of_leave (P := P) (w0 := w0) (F := live H1' ++ F) (w := w) hl hbv (by simp only []; rw [hu]; simpa using g1)
                    obtain ⟨kp, hv0⟩ := leave_keeps hl hbv rfl
                    have ro := sx_ro P w0 _ _ _ _ rfl hx ⟨hv0.eq, hv0.obs⟩
                    refine .inl ?_
                    unfold Oper.wp
                    rw [ro.2.2.2 (live S.H ++ F) w (by rw [hu]; simpa using g)]
                    simp only [SRes.in, Oper.upon]
                    refine hcall.mono ?_
                    rintro e w' ⟨rfl, g'⟩
                    simp only []
                    rw [put_eq]
                    have := hK u S' b _ w' hE (by rw [← he1]; exact back _ w' [] [] H2 H3 hp hq (by simpa [kp.L] using g'))
                    rw [← he1] at this
                    exact this
                  · simp at hc
                · simp at hc
              · -- a call run through
                rename_i wr new n orc hwd
                simp only [RA.wr, RA.new, RA.rd] at hw hp hq hr
                simp only [takeS, Option.some.injEq, Prod.mk.injEq] at hr
                obtain ⟨rfl, rfl⟩ := hr
                simp only [hwd, if_true]
                split at hc
                · rename_i f args st hx
                  rw [ent_eq] at hc
                  split at hc
                  · rename_i v st2 hl
                    split at hc
                    · rename_i x y hsp
                      simp only [forceV_eq, Option.some.injEq] at hc
                      subst hc
                      have hbv : Valid w0 st2 := ⟨by have := hb.1; rw [← he2] at this; exact this, by have := hb.2.1; rw [← he2] at this; exact this⟩
                      have hcall := calls_of_leave (P := P) (w0 := w0) (F := live H1 ++ F) (w := w) hl hbv (by simp only []; rw [hu]; simpa using g1)
                      have hv0 := leave_valid hl hbv
                      have ro := sx_ro P w0 _ _ _ _ rfl hx ⟨hv0.eq, hv0.obs⟩
                      refine .inl ?_
                      unfold Oper.wp
                      rw [ro.2.2.2 (live S.H ++ F) w (by rw [hu]; simpa using g)]
                      simp only [SRes.in, Oper.upon]
                      refine hcall.mono ?_
                      rintro e w' ⟨rfl, g'⟩
                      simp only []
                      rw [put_eq]
                      have hL := splitL_eq _ _ _ _ hsp
                      rw [hL] at g'
                      have := hK u S' b _ w' hE (by rw [← he1]; exact back _ w' x y H2 H3 hp hq (by simpa using g'))
                      rw [← he1] at this
                      exact this
                    · simp at hc
                  · simp at hc
                · simp at hc
            · simp at he
          · simp at he
        · simp at he
      · simp at he
    · simp at he
  · simp at he

end

end Go.Sx
