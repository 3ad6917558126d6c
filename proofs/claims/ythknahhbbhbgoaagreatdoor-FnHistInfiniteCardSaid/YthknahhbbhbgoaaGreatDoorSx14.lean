/- The reckoner of this claim's walks, its fourteenth part: a builder's bytes. -/
import Derived.Test.YthknahhbbhbgoaaGreatDoorSx13
import Derived.Room.MakeNoZero
import Derived.Lib.AppendStr
namespace Go.Sx
open Go Go.Lib

abbrev u : Value := undef

/-- k cells of whatever values. -/
def junk (l : List Value) (k : Nat) : List Value := (l ++ List.replicate k undef).take k

theorem junk_length (l : List Value) (k : Nat) : (junk l k).length = k := by simp [junk]

theorem junk_self (l : List Value) : junk l l.length = l := by simp [junk]

section
variable {P : Program} {w0 : World}

def noZeroSem (f : FuncId) (ps : Array TypeId) (t : TypeId) (n : Nat) : Sem Next := do
  mark (.extern f)
  pure (.value (← Extern.BytealgMakeNoZero.makeNoZero ps #[t] #[.int .i64 n]))

theorem ho_noZero (f : FuncId) (ps : Array TypeId) (t e : TypeId) (ht : P.underlying t = some (.slice e)) (n : Nat) (hn : n ≤ 281474976710656) :
    HO.holds P w0 PU.n ⟨noZeroSem f ps t n, [], [], fun u => (.slice (some ⟨u.n, 0, none⟩) n (u.y + n), [], [(u.n, .cells ⟨junk u.l (u.y + n)⟩ e)])⟩ := by
  intro s F w g
  simp only [List.nil_append] at g
  obtain ⟨cs, hr, hge, _, _⟩ := run_makeNoZero_cap (P := P) w ps t e ht n hn
  have hj : (⟨junk cs.toList (cs.size - n + n)⟩ : Array Value) = cs := by
    rw [Nat.sub_add_cancel hge]
    apply Array.toList_inj.1
    have := junk_self cs.toList
    simpa using this
  refine ⟨⟨s, 0, cs.size - n, undef, cs.toList, fun _ => 0⟩, s + 1, w.drew.drew.alloc (.cells cs e), rfl, ?_, ?_⟩
  · simp only [noZeroSem, Sem.run_bind]
    simp only [mark, Sem.run, Result.andThen, hr]
    rw [Nat.sub_add_cancel hge, g.size]
    rfl
  · simp only [List.nil_append, hj]
    exact (((g.drew _).drew (w.drawn + 2)).new _)

/-- An operation that runs as another one. -/
theorem HO.holds.turn {U : Type} {sz : U → Nat} {m m' : Sem Next} {rd wr : List (Nat × Obj)} {res : U → Value × List (Nat × Obj) × List (Nat × Obj)} (h : HO.holds P w0 sz ⟨m', rd, wr, res⟩) (e : ∀ w, m.run P w = m'.run P w) : HO.holds P w0 sz ⟨m, rd, wr, res⟩ := by
  intro s F w g
  obtain ⟨u, s', w', h1, h2, h3⟩ := h s F w g
  exact ⟨u, s', w', h1, (e w).trans h2, h3⟩

def appendSemS (t u ty : TypeId) (x : Value) (s : ByteArray) : Sem Next := do pure (.value (← Builtin.append_ #[t, u] ty #[x, .string s]))

/-- a string behind nothing, in a row with room. -/
theorem ho_str (t u ty e : TypeId) (ht : P.underlying t = some (.slice e)) (hu : P.underlying u = some .string) (hi : (P.info? e).map (fun i => i.size) = some 1)
    (g c : Nat) (b : List Value) (k : Nat) (s : ByteArray) (hc : s.size ≤ c) (hk : s.size ≤ k) :
    HO.holds P w0 PU.n ⟨appendSemS t u ty (.slice (some ⟨g, 0, none⟩) 0 c) s, [], [(g, .cells ⟨junk b k⟩ e)], fun _ => (.slice (some ⟨g, 0, none⟩) s.size c, [(g, .cells ⟨strCells s ++ (junk b k).drop s.size⟩ e)], [])⟩ := by
  cases h : P.info? e with
  | none => rw [h] at hi; simp at hi
  | some i =>
    rw [h] at hi
    simp at hi
    intro s0 F w g0
    simp only [List.nil_append, List.cons_append] at g0
    have hw := g0.at (b := g) (o := .cells ⟨junk b k⟩ e) (by simp)
    have hr := run_append_room_string (P := P) w t u ty e i ht hu h hi g 0 c ⟨junk b k⟩ hw s (by omega) (by simp [junk_length]; omega)
    obtain ⟨v0, hv0⟩ := PU.any s0
    simp only [List.take_zero, Nat.zero_add, List.nil_append] at hr
    refine ⟨v0, s0, _, hv0, by simp only [appendSemS, Sem.run_bind, hr]; rfl, ?_⟩
    simp only [List.nil_append, List.cons_append]
    have := g0.turn (A := []) (B := F) (.cells ⟨strCells s ++ (junk b k).drop s.size⟩ e)
    have hset : w.setRow g (strCells s ++ (junk b k).drop s.size).toArray = { w with heap := w.heap.setIfInBounds g (.cells ⟨strCells s ++ (junk b k).drop s.size⟩ e) } := by
      have hlt : g < w.heap.size := (Array.getElem?_eq_some_iff.1 hw).1
      have hge : w.heap[g] = .cells ⟨junk b k⟩ e := (Array.getElem?_eq_some_iff.1 hw).2
      unfold World.setRow
      congr 1
      apply Array.ext_getElem?
      intro j
      rw [Array.getElem?_modify, Array.getElem?_setIfInBounds]
      by_cases h : g = j
      · subst h; simp [hlt, hge]
      · simp [h]
    rw [hset]
    exact this

/-- one pointer against itself. -/
def neqSem (t : TypeId) (x y : Operand) (b o : Nat) : Sem Next := do
  pure (.value (← (do eqGuard .neq t x y (.pointer (some ⟨b, o, none⟩)) (.pointer (some ⟨b, o, none⟩)); binOp .neq t (.pointer (some ⟨b, o, none⟩)) (.pointer (some ⟨b, o, none⟩)))))

theorem run_equal_self (t e : TypeId) (ht : P.underlying t = some (.pointer e)) (i : TypeInfo) (h : P.info? e = some i) (a : Addr) (w : World) :
    (Op.equal t (.pointer (some a)) (.pointer (some a))).run P w = .ok true w := by
  show (Op.equalIn (9999 + 1) t (.pointer (some a)) (.pointer (some a))).run P w = .ok true w
  unfold Op.equalIn
  simp [run_underlying ht, sizeOf, typeInfo, h, sameAddr]

theorem ho_neq (t e : TypeId) (x y : Operand) (ht : P.underlying t = some (.pointer e)) (n : Nat) (hi : (P.info? e).map (fun i => i.size) = some (n + 1)) (b o : Nat) :
    HO.holds P w0 PU.n ⟨neqSem t x y b o, [], [], fun _ => (.bool false, [], [])⟩ := by
  cases h : P.info? e with
  | none => rw [h] at hi; simp at hi
  | some i =>
    rw [h] at hi
    simp at hi
    intro s0 F w g0
    obtain ⟨v0, hv0⟩ := PU.any s0
    refine ⟨v0, s0, w, hv0, ?_, g0⟩
    have h1 : eqGuard .neq t x y (.pointer (some ⟨b, o, none⟩)) (.pointer (some ⟨b, o, none⟩)) = pure () := rfl
    have h2 : binOp .neq t (.pointer (some ⟨b, o, none⟩)) (.pointer (some ⟨b, o, none⟩)) = (do pure (.bool (!(← Op.equal t (.pointer (some ⟨b, o, none⟩)) (.pointer (some ⟨b, o, none⟩)))))) := rfl
    have h3 := run_equal_self (P := P) t e ht i h ⟨b, o, none⟩ w
    rw [neqSem, h1, h2]
    simp [h3]

end
end Go.Sx
