/- The reckoner of this claim's walks, its second part: what an operation does over the list is what it does in the world. -/
import Derived.Test.YthknahhbbhbgoaaGreatDoorSx1
namespace Go.Sx
open Go

theorem pick_valid {w0 : World} {st st' : St} {a : Option An} (h : st.pick = (a, st')) (hv : Valid w0 st') : Valid w0 st := by
  unfold St.pick at h
  split at h
  · simp at h; rw [← h.2] at hv; exact hv
  · split at h <;> (simp at h; rw [← h.2] at hv; exact ⟨hv.eq, hv.obs⟩)

theorem pick_same {st st' : St} {a : Option An} (h : st.pick = (a, st')) : st'.s = st.s ∧ st'.L = st.L ∧ st'.ro = st.ro ∧ st'.lhs = st.lhs ∧ st'.rhs = st.rhs ∧ st'.ob = st.ob := by
  unfold St.pick at h
  split at h
  · simp at h; rw [← h.2]; simp
  · split at h <;> (simp at h; rw [← h.2]; simp)

theorem freeze_at {w : World} {b : Nat} {c : Array Value} {t : TypeId} {lo hi : Nat} {a : Addr} {m : Nat} (h : w.heap[b]? = some (.cells c t (lo, hi))) (ha : a.block = b) :
    w.freeze a (m + 1) = { w with heap := w.heap.setIfInBounds b (.cells c t (match lo == hi with | true => (a.off, a.off + (m + 1)) | false => (min lo a.off, max hi (a.off + (m + 1))))) } := by
  subst ha
  have hlt : a.block < w.heap.size := (Array.getElem?_eq_some_iff.1 h).1
  have hge : w.heap[a.block] = .cells c t (lo, hi) := (Array.getElem?_eq_some_iff.1 h).2
  unfold World.freeze
  simp only [Nat.add_one_ne_zero, if_false]
  congr 1
  apply Array.ext_getElem?
  intro j
  rw [Array.getElem?_modify, Array.getElem?_setIfInBounds]
  by_cases h : a.block = j
  · subst h; simp [hlt, hge]; cases hq : lo == hi <;> simp_all
  · simp [h]

theorem split_at {α : Type} {l : List α} {i : Nat} {x : α} (h : lget l i = some x) : ∃ A B, l = A ++ x :: B ∧ ∀ y, lset l i y = A ++ y :: B := by
  induction l generalizing i with
  | nil => simp [lget] at h
  | cons a l ih =>
    cases i with
    | zero => simp [lget] at h; subst h; exact ⟨[], l, rfl, fun y => rfl⟩
    | succ i =>
      obtain ⟨A, B, h1, h2⟩ := ih (by simpa [lget] using h)
      exact ⟨a :: A, B, by simp [h1], fun y => by simp [lset, h2]⟩

theorem mem_at {α : Type} {l : List α} {i : Nat} {x : α} (h : lget l i = some x) : x ∈ l := by
  obtain ⟨A, B, h1, _⟩ := split_at h
  simp [h1]

theorem Valid.tail {w0 : World} {st st' : St} {a b : Nat} (hv : Valid w0 st') (h1 : st'.lhs = a :: st.lhs) (h2 : st'.rhs = b :: st.rhs) (h3 : st'.ob = st.ob) : a = b ∧ Valid w0 st := by
  have := hv.eq
  rw [h1, h2] at this
  simp at this
  exact ⟨this.1, this.2, h3 ▸ hv.obs⟩

theorem cell_of {w : World} {b : Nat} {c : Array Value} {t : TypeId} {f : Nat × Nat} {a : Addr} (hb : w.heap[b]? = some (.cells c t f)) (ha : a.block = b) (hs : a.spot = none) :
    w.cell? a = c[a.off]? := by
  simp [World.cell?, ha, hb, hs]

theorem frozen_of {w : World} {b : Nat} {c : Array Value} {t : TypeId} {lo hi : Nat} {a : Addr} (hb : w.heap[b]? = some (.cells c t (lo, hi))) (ha : a.block = b) :
    w.frozen? a = (decide (lo ≤ a.off) && decide (a.off < hi)) := by
  simp [World.frozen?, ha, hb]

theorem setCell_of {w : World} {b : Nat} {c : Array Value} {t : TypeId} {f : Nat × Nat} {a : Addr} (v : Value) (hb : w.heap[b]? = some (.cells c t f)) (ha : a.block = b) (hs : a.spot = none) :
    w.setCell a v = { w with heap := w.heap.setIfInBounds b (.cells (c.setIfInBounds a.off v) t f) } := by
  have hl : b < w.heap.size := (Array.getElem?_eq_some_iff.1 hb).1
  have hg : w.heap[b] = .cells c t f := (Array.getElem?_eq_some_iff.1 hb).2
  unfold World.setCell
  congr 1
  apply Array.ext_getElem?
  intro i
  rw [ha, Array.getElem?_modify, Array.getElem?_setIfInBounds]
  by_cases h : b = i
  · subst h; simp [hl, hg, hs]
  · simp [h]

theorem store_run (P : Program) {α : Type} (m : Mode) (a : Addr) (v : Value) (k : Sem α) (w : World) (hv : Value.oneCell v = true) (hc : ∃ u, w.cell? a = some u) (hf : w.frozen? a = false) :
    (Sem.store m a v k).run P w = k.run P (w.setCell a v) := by
  obtain ⟨u, hu⟩ := hc
  cases v <;> simp [Value.oneCell] at hv <;> simp [Sem.run, hu, hf]

theorem sx_sound (P : Program) (w0 : World) {α : Type} (m : Sem α) : ∀ (st st' : St) (r : SRes α), sx P m st = some (r, st') → Valid w0 st' →
    Valid w0 st ∧ ∀ (F : List (Nat × Obj)) (w : World), Good w0 st.s (st.L ++ F) w → ∃ w', m.run P w = r.in w' ∧ Good w0 st'.s (st'.L ++ F) w' ∧ w'.drawn = w.drawn := by
  induction m with
  | pure a =>
    intro st st' r h hv
    simp [sx] at h
    obtain ⟨rfl, rfl⟩ := h
    exact ⟨hv, fun F w g => ⟨w, rfl, g, rfl⟩⟩
  | halt x =>
    intro st st' r h hv
    simp [sx] at h
    obtain ⟨rfl, rfl⟩ := h
    exact ⟨hv, fun F w g => ⟨w, rfl, g, rfl⟩⟩
  | program k ih =>
    intro st st' r h hv
    exact ih P st st' r (by simpa [sx] using h) hv
  | mark x k ih =>
    intro st st' r h hv
    exact ih st st' r (by simpa [sx] using h) hv
  | load x a k ih =>
    intro st st' r h hv
    simp only [sx] at h
    split at h
    · rename_i i st1 hp
      obtain ⟨e1, e2, e3, e4, e5, e6⟩ := pick_same hp
      split at h
      · rename_i b c t f hb
        split at h
        · rename_i hs
          split at h
          · rename_i v hc
            obtain ⟨v1, g1⟩ := ih v _ _ _ h hv
            obtain ⟨ha, v2⟩ := v1.tail (st := st1) rfl rfl rfl
            refine ⟨pick_valid hp v2, fun F w g => ?_⟩
            have hm : (b, Obj.cells c t f) ∈ st.L ++ F := List.mem_append_left _ (e2 ▸ mem_at hb)
            have hw := g.at hm
            have hcell : w.cell? a = some v := by rw [cell_of hw ha hs, ← hc, lget_eq]; simp
            obtain ⟨w', h1, h2, h3⟩ := g1 F w (by simpa [e1, e2] using g)
            exact ⟨w', by simp [Sem.run, hcell, h1], h2, h3⟩
          · simp at h
        · simp at h
      · simp at h
    · rename_i i v st1 hp
      obtain ⟨e1, e2, e3, e4, e5, e6⟩ := pick_same hp
      split at h
      · rename_i b c t f hb
        split at h
        · rename_i hs
          obtain ⟨v1, g1⟩ := ih v _ _ _ h hv
          have hob := v1.obs
          simp only [Obs, Ob.holds] at hob
          have heq := v1.eq
          simp at heq
          refine ⟨pick_valid hp ⟨heq.2, hob.2⟩, fun F w g => ?_⟩
          have hm : (b, Obj.cells c t f) ∈ st.L ++ F := List.mem_append_left _ (e2 ▸ mem_at hb)
          have hw := g.at hm
          have hcell : w.cell? a = some v := by rw [cell_of hw heq.1 hs, hob.1]
          obtain ⟨w', h1, h2, h3⟩ := g1 F w (by simpa [e1, e2] using g)
          exact ⟨w', by simp [Sem.run, hcell, h1], h2, h3⟩
        · simp at h
      · simp at h
    · rename_i v st1 hp
      obtain ⟨e1, e2, e3, e4, e5, e6⟩ := pick_same hp
      obtain ⟨v1, g1⟩ := ih v _ _ _ h hv
      have hob := v1.obs
      simp only [Obs, Ob.holds] at hob
      refine ⟨pick_valid hp ⟨v1.eq, hob.2⟩, fun F w g => ?_⟩
      have hlt : a.block < w0.heap.size := by
        have := hob.1
        unfold World.cell? at this
        split at this
        · rename_i hh; exact (Array.getElem?_eq_some_iff.1 hh).1
        · simp at this
      have hcell : w.cell? a = some v := by rw [← hob.1]; simp [World.cell?, g.old _ hlt]
      obtain ⟨w', h1, h2, h3⟩ := g1 F w (by simpa [e1, e2] using g)
      exact ⟨w', by simp [Sem.run, hcell, h1], h2, h3⟩
    · simp at h
  | store x a v k ih =>
    intro st st' r h hv
    simp only [sx] at h
    split at h
    · rename_i hro hone
      split at h
      · rename_i i st1 hp
        obtain ⟨e1, e2, e3, e4, e5, e6⟩ := pick_same hp
        split at h
        · rename_i b c t lo hi hb
          split at h
          · rename_i hs
            split at h
            · rename_i u hc hf
              simp only [forceV_eq, forceL_eq] at h
              obtain ⟨v1, g1⟩ := ih _ _ _ h hv
              obtain ⟨ha, v2⟩ := v1.tail (st := { st1 with L := lset st1.L i (b, Obj.cells ⟨lset c.toList a.off v⟩ t (lo, hi)) }) rfl rfl rfl
              refine ⟨pick_valid hp ⟨v2.eq, v2.obs⟩, fun F w g => ?_⟩
              obtain ⟨A, B, hA, hB⟩ := split_at hb
              have g0 : Good w0 st.s (A ++ (b, Obj.cells c t (lo, hi)) :: (B ++ F)) w := by simpa [← e2, hA] using g
              have hw := g0.at (b := b) (o := Obj.cells c t (lo, hi)) (by simp)
              have hfr : w.frozen? a = false := by rw [frozen_of hw ha, hf]
              have hce : w.cell? a = some u := by rw [cell_of hw ha hs, ← hc, lget_eq]; simp
              have g2 := g0.turn (.cells (c.setIfInBounds a.off v) t (lo, hi))
              rw [← setCell_of v hw ha hs] at g2
              have hc' : (⟨lset c.toList a.off v⟩ : Array Value) = c.setIfInBounds a.off v := by
                rw [lset_eq]; apply Array.toList_inj.1; simp
              obtain ⟨w', h1, h2, h3⟩ := g1 F (w.setCell a v) (by simpa [e1, hB, hc'] using g2)
              exact ⟨w', by rw [store_run P x a v k w hone ⟨u, hce⟩ hfr, h1], h2, h3.trans (by simp [World.setCell])⟩
            · simp at h
          · simp at h
        · simp at h
      · rename_i i c' st1 hp
        obtain ⟨e1, e2, e3, e4, e5, e6⟩ := pick_same hp
        split at h
        · rename_i b c t lo hi hb
          split at h
          · rename_i hs
            split at h
            · rename_i hf
              simp only [forceL_eq] at h
              obtain ⟨v1, g1⟩ := ih _ _ _ h hv
              have hob := v1.obs
              simp only [Obs, Ob.holds] at hob
              have heq := v1.eq
              simp at heq
              refine ⟨pick_valid hp ⟨heq.2, hob.2⟩, fun F w g => ?_⟩
              obtain ⟨A, B, hA, hB⟩ := split_at hb
              have ha := heq.1
              have g0 : Good w0 st.s (A ++ (b, Obj.cells c t (lo, hi)) :: (B ++ F)) w := by simpa [← e2, hA] using g
              have hw := g0.at (b := b) (o := Obj.cells c t (lo, hi)) (by simp)
              have hfr : w.frozen? a = false := by rw [frozen_of hw ha, hf]
              have hce : ∃ u, w.cell? a = some u := by rw [cell_of hw ha hs]; exact ⟨c[a.off]'hob.1.1, by simp [hob.1.1]⟩
              have g2 := g0.turn (.cells (c.setIfInBounds a.off v) t (lo, hi))
              rw [← setCell_of v hw ha hs] at g2
              obtain ⟨w', h1, h2, h3⟩ := g1 F (w.setCell a v) (by simpa [e1, hB, hob.1.2] using g2)
              exact ⟨w', by rw [store_run P x a v k w hone hce hfr, h1], h2, h3.trans (by simp [World.setCell])⟩
            · simp at h
          · simp at h
        · simp at h
      · rename_i i f st1 hp
        obtain ⟨e1, e2, e3, e4, e5, e6⟩ := pick_same hp
        split at h
        · rename_i b c t lo hi hb
          split at h
          · rename_i hs
            split at h
            · rename_i hf
              simp only [forceL_eq] at h
              obtain ⟨v1, g1⟩ := ih _ _ _ h hv
              have hob := v1.obs
              simp only [Obs, Ob.holds] at hob
              have heq := v1.eq
              simp at heq
              refine ⟨pick_valid hp ⟨heq.2, hob.2⟩, fun F w g => ?_⟩
              obtain ⟨A, B, hA, hB⟩ := split_at hb
              have ha := heq.1
              have g0 : Good w0 st.s (A ++ (b, Obj.cells c t (lo, hi)) :: (B ++ F)) w := by simpa [← e2, hA] using g
              have hw := g0.at (b := b) (o := Obj.cells c t (lo, hi)) (by simp)
              have hfr : w.frozen? a = false := by rw [frozen_of hw ha, hf]
              have hce : ∃ u, w.cell? a = some u := by rw [cell_of hw ha hs]; exact ⟨c[a.off]'hob.1.1, by simp [hob.1.1]⟩
              have g2 := g0.turn (.cells (c.setIfInBounds a.off v) t (lo, hi))
              rw [← setCell_of v hw ha hs] at g2
              obtain ⟨w', h1, h2, h3⟩ := g1 F (w.setCell a v) (by simpa [e1, hB, hob.1.2] using g2)
              exact ⟨w', by rw [store_run P x a v k w hone hce hfr, h1], h2, h3.trans (by simp [World.setCell])⟩
            · simp at h
          · simp at h
        · simp at h
      · simp at h
    · simp at h
  | new o k ih =>
    intro st st' r h hv
    simp only [sx] at h
    split at h
    · simp only [forceL_eq] at h
      obtain ⟨v1, g1⟩ := ih _ _ _ _ h hv
      refine ⟨⟨v1.eq, v1.obs⟩, fun F w g => ?_⟩
      have g2 := g.new o
      have g3 : Good w0 (st.s + 1) ((st.L ++ [(st.s, o)]) ++ F) { w with heap := w.heap.push o } := g2.perm (by simp)
      obtain ⟨w', h1, h2, h3⟩ := g1 F _ g3
      exact ⟨w', by simp only [Sem.run]; rw [g.size]; exact h1, h2, h3⟩
    · simp at h
  | shape b k ih =>
    intro st st' r h hv
    simp only [sx] at h
    split at h
    · rename_i i st1 hp
      obtain ⟨e1, e2, e3, e4, e5, e6⟩ := pick_same hp
      split at h
      · rename_i b' c t f hb
        obtain ⟨v1, g1⟩ := ih _ _ _ _ h hv
        obtain ⟨ha, v2⟩ := v1.tail (st := st1) rfl rfl rfl
        refine ⟨pick_valid hp v2, fun F w g => ?_⟩
        have hw := g.at (List.mem_append_left _ (e2 ▸ mem_at hb))
        obtain ⟨w', h1, h2, h3⟩ := g1 F w (by simpa [e1, e2] using g)
        exact ⟨w', by simp [Sem.run, World.shape?, ha, hw, h1], h2, h3⟩
      · rename_i b' en cl hb
        obtain ⟨v1, g1⟩ := ih _ _ _ _ h hv
        obtain ⟨ha, v2⟩ := v1.tail (st := st1) rfl rfl rfl
        refine ⟨pick_valid hp v2, fun F w g => ?_⟩
        have hw := g.at (List.mem_append_left _ (e2 ▸ mem_at hb))
        obtain ⟨w', h1, h2, h3⟩ := g1 F w (by simpa [e1, e2] using g)
        exact ⟨w', by simp [Sem.run, World.shape?, ha, hw, h1], h2, h3⟩
      · simp at h
    · rename_i x st1 hp
      obtain ⟨e1, e2, e3, e4, e5, e6⟩ := pick_same hp
      obtain ⟨v1, g1⟩ := ih x _ _ _ h hv
      have hob := v1.obs
      simp only [Obs, Ob.holds] at hob
      refine ⟨pick_valid hp ⟨v1.eq, hob.2⟩, fun F w g => ?_⟩
      obtain ⟨w', h1, h2, h3⟩ := g1 F w (by simpa [e1, e2] using g)
      refine ⟨w', ?_, h2, h3⟩
      rw [← h1, ← hob.1.2]
      simp [Sem.run, World.shape?, g.old _ hob.1.1]
    · simp at h
  | frozen a k ih =>
    intro st st' r h hv
    simp only [sx] at h
    split at h
    · rename_i i st1 hp
      obtain ⟨e1, e2, e3, e4, e5, e6⟩ := pick_same hp
      split at h
      · rename_i b' c t lo hi hb
        obtain ⟨v1, g1⟩ := ih _ _ _ _ h hv
        obtain ⟨ha, v2⟩ := v1.tail (st := st1) rfl rfl rfl
        refine ⟨pick_valid hp v2, fun F w g => ?_⟩
        have hw := g.at (List.mem_append_left _ (e2 ▸ mem_at hb))
        obtain ⟨w', h1, h2, h3⟩ := g1 F w (by simpa [e1, e2] using g)
        refine ⟨w', ?_, h2, h3⟩
        rw [← h1, ← frozen_of hw ha]
        rfl
      · simp at h
    · rename_i x st1 hp
      obtain ⟨e1, e2, e3, e4, e5, e6⟩ := pick_same hp
      obtain ⟨v1, g1⟩ := ih x _ _ _ h hv
      have hob := v1.obs
      simp only [Obs, Ob.holds] at hob
      refine ⟨pick_valid hp ⟨v1.eq, hob.2⟩, fun F w g => ?_⟩
      obtain ⟨w', h1, h2, h3⟩ := g1 F w (by simpa [e1, e2] using g)
      refine ⟨w', ?_, h2, h3⟩
      rw [← h1, ← hob.1.2]
      simp [Sem.run, World.frozen?, g.old _ hob.1.1]
    · simp at h
  | getObj b k ih =>
    intro st st' r h hv
    simp only [sx] at h
    split at h
    · rename_i i st1 hp
      obtain ⟨e1, e2, e3, e4, e5, e6⟩ := pick_same hp
      split at h
      · simp at h
      · rename_i b' ob hne hb
        obtain ⟨v1, g1⟩ := ih _ _ _ _ h hv
        obtain ⟨ha, v2⟩ := v1.tail (st := st1) rfl rfl rfl
        refine ⟨pick_valid hp v2, fun F w g => ?_⟩
        have hw := g.at (List.mem_append_left _ (e2 ▸ mem_at hb))
        obtain ⟨w', h1, h2, h3⟩ := g1 F w (by simpa [e1, e2] using g)
        refine ⟨w', ?_, h2, h3⟩
        cases ob <;> simp_all [Sem.run]
      · simp at h
    · simp at h
  | setObj b o k ih =>
    intro st st' r h hv
    simp only [sx] at h
    split at h
    · split at h
      · rename_i i st1 hp
        obtain ⟨e1, e2, e3, e4, e5, e6⟩ := pick_same hp
        split at h
        · simp at h
        · rename_i b' ob hne hb
          simp only [forceL_eq] at h
          obtain ⟨v1, g1⟩ := ih _ _ _ h hv
          obtain ⟨ha, v2⟩ := v1.tail (st := { st1 with L := lset st1.L i (b', o) }) rfl rfl rfl
          refine ⟨pick_valid hp ⟨v2.eq, v2.obs⟩, fun F w g => ?_⟩
          obtain ⟨A, B, hA, hB⟩ := split_at hb
          have g0 : Good w0 st.s (A ++ (b', ob) :: (B ++ F)) w := by simpa [← e2, hA] using g
          have hw := g0.at (b := b') (o := ob) (by simp)
          have g2 := g0.turn o
          obtain ⟨w', h1, h2, h3⟩ := g1 F _ (by simpa [e1, hB] using g2)
          refine ⟨w', ?_, h2, h3⟩
          cases ob <;> simp_all [Sem.run]
        · simp at h
      · simp at h
    · simp at h
  | freeze a n k ih =>
    intro st st' r h hv
    simp only [sx] at h
    split at h
    · obtain ⟨v1, g1⟩ := ih _ _ _ h hv
      refine ⟨v1, fun F w g => ?_⟩
      obtain ⟨w', h1, h2, h3⟩ := g1 F w g
      exact ⟨w', by simp [Sem.run, World.freeze, h1], h2, h3⟩
    · rename_i m hro
      split at h
      · rename_i i st1 hp
        obtain ⟨e1, e2, e3, e4, e5, e6⟩ := pick_same hp
        split at h
        · rename_i b' c t lo hi hb
          split at h
          · rename_i hq
            simp only [forceL_eq] at h
            obtain ⟨v1, g1⟩ := ih _ _ _ h hv
            obtain ⟨ha, v2⟩ := v1.tail (st := { st1 with L := lset st1.L i (b', .cells c t (a.off, a.off + (m + 1))) }) rfl rfl rfl
            refine ⟨pick_valid hp ⟨v2.eq, v2.obs⟩, fun F w g => ?_⟩
            obtain ⟨A, B, hA, hB⟩ := split_at hb
            have g0 : Good w0 st.s (A ++ (b', Obj.cells c t (lo, hi)) :: (B ++ F)) w := by simpa [← e2, hA] using g
            have hw := g0.at (b := b') (o := Obj.cells c t (lo, hi)) (by simp)
            have g2 := g0.turn (.cells c t (a.off, a.off + (m + 1)))
            obtain ⟨w', h1, h2, h3⟩ := g1 F _ (by simpa [e1, hB] using g2)
            refine ⟨w', ?_, h2, h3⟩
            rw [← h1]
            simp only [Sem.run]
            rw [freeze_at hw ha, hq]
          · rename_i hq
            simp only [forceL_eq] at h
            obtain ⟨v1, g1⟩ := ih _ _ _ h hv
            obtain ⟨ha, v2⟩ := v1.tail (st := { st1 with L := lset st1.L i (b', .cells c t (min lo a.off, max hi (a.off + (m + 1)))) }) rfl rfl rfl
            refine ⟨pick_valid hp ⟨v2.eq, v2.obs⟩, fun F w g => ?_⟩
            obtain ⟨A, B, hA, hB⟩ := split_at hb
            have g0 : Good w0 st.s (A ++ (b', Obj.cells c t (lo, hi)) :: (B ++ F)) w := by simpa [← e2, hA] using g
            have hw := g0.at (b := b') (o := Obj.cells c t (lo, hi)) (by simp)
            have g2 := g0.turn (.cells c t (min lo a.off, max hi (a.off + (m + 1))))
            obtain ⟨w', h1, h2, h3⟩ := g1 F _ (by simpa [e1, hB] using g2)
            refine ⟨w', ?_, h2, h3⟩
            rw [← h1]
            simp only [Sem.run]
            rw [freeze_at hw ha, hq]
        · simp at h
      · simp at h
    · simp at h
  | choose q k ih =>
    intro st st' r h hv
    simp only [sx] at h
    split at h
    · rename_i hq
      obtain ⟨v1, g1⟩ := ih _ _ _ _ h hv
      refine ⟨v1, fun F w g => ?_⟩
      obtain ⟨w', h1, h2, h3⟩ := g1 F w g
      exact ⟨w', by simp [Sem.run, hq, h1], h2, h3⟩
    · simp at h
  | sys c k ih => intro st st' r h; simp [sx] at h

/-- Where nothing may be written the world is the very world. -/
theorem sx_ro (P : Program) (w0 : World) {α : Type} (m : Sem α) : ∀ (st st' : St) (r : SRes α), st.ro = true → sx P m st = some (r, st') → Valid w0 st' →
    st'.ro = true ∧ st'.s = st.s ∧ st'.L = st.L ∧ ∀ (F : List (Nat × Obj)) (w : World), Good w0 st.s (st.L ++ F) w → m.run P w = r.in w := by
  induction m with
  | pure a =>
    intro st st' r hro h hv
    simp [sx] at h
    obtain ⟨rfl, rfl⟩ := h
    exact ⟨hro, rfl, rfl, fun F w g => rfl⟩
  | halt x =>
    intro st st' r hro h hv
    simp [sx] at h
    obtain ⟨rfl, rfl⟩ := h
    exact ⟨hro, rfl, rfl, fun F w g => rfl⟩
  | program k ih =>
    intro st st' r hro h hv
    exact ih P st st' r hro (by simpa [sx] using h) hv
  | mark x k ih =>
    intro st st' r hro h hv
    exact ih st st' r hro (by simpa [sx] using h) hv
  | load x a k ih =>
    intro st st' r hro h hv
    simp only [sx] at h
    split at h
    · rename_i i st1 hp
      obtain ⟨e1, e2, e3, e4, e5, e6⟩ := pick_same hp
      split at h
      · rename_i b c t f hb
        split at h
        · rename_i hs
          split at h
          · rename_i v hc
            obtain ⟨r1, r2, r3, g1⟩ := ih v _ _ _ (by simp [e3, hro]) h hv
            have v1 := (sx_sound P w0 _ _ _ _ h hv).1
            obtain ⟨ha, v2⟩ := v1.tail (st := st1) rfl rfl rfl
            refine ⟨r1, r2.trans e1, r3.trans e2, fun F w g => ?_⟩
            have hm : (b, Obj.cells c t f) ∈ st.L ++ F := List.mem_append_left _ (e2 ▸ mem_at hb)
            have hw := g.at hm
            have hcell : w.cell? a = some v := by rw [cell_of hw ha hs, ← hc, lget_eq]; simp
            simp [Sem.run, hcell, g1 F w (by simpa [e1, e2] using g)]
          · simp at h
        · simp at h
      · simp at h
    · rename_i i v st1 hp
      obtain ⟨e1, e2, e3, e4, e5, e6⟩ := pick_same hp
      split at h
      · rename_i b c t f hb
        split at h
        · rename_i hs
          obtain ⟨r1, r2, r3, g1⟩ := ih v _ _ _ (by simp [e3, hro]) h hv
          have v1 := (sx_sound P w0 _ _ _ _ h hv).1
          have hob := v1.obs
          simp only [Obs, Ob.holds] at hob
          have heq := v1.eq
          simp at heq
          refine ⟨r1, r2.trans e1, r3.trans e2, fun F w g => ?_⟩
          have hm : (b, Obj.cells c t f) ∈ st.L ++ F := List.mem_append_left _ (e2 ▸ mem_at hb)
          have hw := g.at hm
          have hcell : w.cell? a = some v := by rw [cell_of hw heq.1 hs, hob.1]
          simp [Sem.run, hcell, g1 F w (by simpa [e1, e2] using g)]
        · simp at h
      · simp at h
    · rename_i v st1 hp
      obtain ⟨e1, e2, e3, e4, e5, e6⟩ := pick_same hp
      obtain ⟨r1, r2, r3, g1⟩ := ih v _ _ _ (by simp [e3, hro]) h hv
      have v1 := (sx_sound P w0 _ _ _ _ h hv).1
      have hob := v1.obs
      simp only [Obs, Ob.holds] at hob
      refine ⟨r1, r2.trans e1, r3.trans e2, fun F w g => ?_⟩
      have hlt : a.block < w0.heap.size := by
        have := hob.1
        unfold World.cell? at this
        split at this
        · rename_i hh; exact (Array.getElem?_eq_some_iff.1 hh).1
        · simp at this
      have hcell : w.cell? a = some v := by rw [← hob.1]; simp [World.cell?, g.old _ hlt]
      simp [Sem.run, hcell, g1 F w (by simpa [e1, e2] using g)]
    · simp at h
  | store x a v k ih => intro st st' r hro h; simp [sx, hro] at h
  | new o k ih => intro st st' r hro h; simp [sx, hro] at h
  | shape b k ih =>
    intro st st' r hro h hv
    simp only [sx] at h
    split at h
    · rename_i i st1 hp
      obtain ⟨e1, e2, e3, e4, e5, e6⟩ := pick_same hp
      split at h
      · rename_i b' c t f hb
        obtain ⟨r1, r2, r3, g1⟩ := ih _ _ _ _ (by simp [e3, hro]) h hv
        have v1 := (sx_sound P w0 _ _ _ _ h hv).1
        obtain ⟨ha, v2⟩ := v1.tail (st := st1) rfl rfl rfl
        refine ⟨r1, r2.trans e1, r3.trans e2, fun F w g => ?_⟩
        have hw := g.at (List.mem_append_left _ (e2 ▸ mem_at hb))
        simp [Sem.run, World.shape?, ha, hw, g1 F w (by simpa [e1, e2] using g)]
      · rename_i b' en cl hb
        obtain ⟨r1, r2, r3, g1⟩ := ih _ _ _ _ (by simp [e3, hro]) h hv
        have v1 := (sx_sound P w0 _ _ _ _ h hv).1
        obtain ⟨ha, v2⟩ := v1.tail (st := st1) rfl rfl rfl
        refine ⟨r1, r2.trans e1, r3.trans e2, fun F w g => ?_⟩
        have hw := g.at (List.mem_append_left _ (e2 ▸ mem_at hb))
        simp [Sem.run, World.shape?, ha, hw, g1 F w (by simpa [e1, e2] using g)]
      · simp at h
    · rename_i x st1 hp
      obtain ⟨e1, e2, e3, e4, e5, e6⟩ := pick_same hp
      obtain ⟨r1, r2, r3, g1⟩ := ih x _ _ _ (by simp [e3, hro]) h hv
      have v1 := (sx_sound P w0 _ _ _ _ h hv).1
      have hob := v1.obs
      simp only [Obs, Ob.holds] at hob
      refine ⟨r1, r2.trans e1, r3.trans e2, fun F w g => ?_⟩
      rw [← g1 F w (by simpa [e1, e2] using g), ← hob.1.2]
      simp [Sem.run, World.shape?, g.old _ hob.1.1]
    · simp at h
  | frozen a k ih =>
    intro st st' r hro h hv
    simp only [sx] at h
    split at h
    · rename_i i st1 hp
      obtain ⟨e1, e2, e3, e4, e5, e6⟩ := pick_same hp
      split at h
      · rename_i b' c t lo hi hb
        obtain ⟨r1, r2, r3, g1⟩ := ih _ _ _ _ (by simp [e3, hro]) h hv
        have v1 := (sx_sound P w0 _ _ _ _ h hv).1
        obtain ⟨ha, v2⟩ := v1.tail (st := st1) rfl rfl rfl
        refine ⟨r1, r2.trans e1, r3.trans e2, fun F w g => ?_⟩
        have hw := g.at (List.mem_append_left _ (e2 ▸ mem_at hb))
        rw [← g1 F w (by simpa [e1, e2] using g), ← frozen_of hw ha]
        rfl
      · simp at h
    · rename_i x st1 hp
      obtain ⟨e1, e2, e3, e4, e5, e6⟩ := pick_same hp
      obtain ⟨r1, r2, r3, g1⟩ := ih x _ _ _ (by simp [e3, hro]) h hv
      have v1 := (sx_sound P w0 _ _ _ _ h hv).1
      have hob := v1.obs
      simp only [Obs, Ob.holds] at hob
      refine ⟨r1, r2.trans e1, r3.trans e2, fun F w g => ?_⟩
      rw [← g1 F w (by simpa [e1, e2] using g), ← hob.1.2]
      simp [Sem.run, World.frozen?, g.old _ hob.1.1]
    · simp at h
  | getObj b k ih =>
    intro st st' r hro h hv
    simp only [sx] at h
    split at h
    · rename_i i st1 hp
      obtain ⟨e1, e2, e3, e4, e5, e6⟩ := pick_same hp
      split at h
      · simp at h
      · rename_i b' ob hne hb
        obtain ⟨r1, r2, r3, g1⟩ := ih _ _ _ _ (by simp [e3, hro]) h hv
        have v1 := (sx_sound P w0 _ _ _ _ h hv).1
        obtain ⟨ha, v2⟩ := v1.tail (st := st1) rfl rfl rfl
        refine ⟨r1, r2.trans e1, r3.trans e2, fun F w g => ?_⟩
        have hw := g.at (List.mem_append_left _ (e2 ▸ mem_at hb))
        have hg := g1 F w (by simpa [e1, e2] using g)
        rw [← hg]
        subst ha
        cases ob <;> first | (exact absurd rfl (hne _ _ _)) | simp [Sem.run, hw]
      · simp at h
    · simp at h
  | setObj b o k ih => intro st st' r hro h; simp [sx, hro] at h
  | freeze a n k ih => intro st st' r hro h; simp only [sx] at h; split at h <;> simp_all
  | choose q k ih =>
    intro st st' r hro h hv
    simp only [sx] at h
    split at h
    · rename_i hq
      obtain ⟨r1, r2, r3, g1⟩ := ih _ _ _ _ hro h hv
      exact ⟨r1, r2, r3, fun F w g => by rw [← g1 F w g]; simp [Sem.run, hq]⟩
    · simp at h
  | sys c k ih => intro st st' r hro h; simp [sx] at h

end Go.Sx
