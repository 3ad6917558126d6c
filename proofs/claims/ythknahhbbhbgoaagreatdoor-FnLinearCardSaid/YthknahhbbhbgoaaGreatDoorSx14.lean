/- The reckoner of this claim's walks, its fourteenth part: a builder's bytes. -/
import Derived.Test.YthknahhbbhbgoaaGreatDoorSx13
import Derived.Room.MakeNoZero
import Derived.Lib.AppendStr
namespace Go.Sx
open Go Go.Lib

abbrev u : Value := undef

/-- r bytes of whatever values, told by the numbers b i, b (i + 1), .. -/
def junk (b : Nat → Nat) : Nat → Nat → List Value
  | _, 0 => []
  | i, r + 1 => .int .u8 (Int.ofNat (b i)) :: junk b (i + 1) r

theorem junk_length (b : Nat → Nat) : ∀ (r i : Nat), (junk b i r).length = r
  | 0, _ => rfl
  | r + 1, i => by simp [junk, junk_length b r]

theorem junk_append (b : Nat → Nat) : ∀ (r i m : Nat), junk b i r ++ junk b (i + r) m = junk b i (r + m)
  | 0, i, m => by simp [junk]
  | r + 1, i, m => by
    have := junk_append b r (i + 1) m
    rw [show i + 1 + r = i + (r + 1) by omega] at this
    simp [junk, this, show r + 1 + m = (r + m) + 1 by omega]

theorem digits_junk : ∀ (n t : Nat) (acc : Array Value), (Extern.BytealgMakeNoZero.digits n t acc).toList = acc.toList ++ junk (fun i => t / 256 ^ i % 256) 0 n
  | 0, t, acc => by simp [Extern.BytealgMakeNoZero.digits, junk]
  | n + 1, t, acc => by
    rw [Extern.BytealgMakeNoZero.digits, digits_junk n]
    have key : ∀ (m i : Nat), junk (fun i => t / 256 / 256 ^ i % 256) i m = junk (fun i => t / 256 ^ i % 256) (i + 1) m := by
      intro m
      induction m with
      | zero => intro i; rfl
      | succ m ih =>
        intro i
        simp only [junk, ih]
        rw [Nat.div_div_eq_div_mul, Nat.pow_succ, Nat.mul_comm 256]
    simp [junk, key]

section
variable {P : Program} {w0 : World}

def noZeroSem (f : FuncId) (ps : Array TypeId) (t : TypeId) (n : Nat) : Sem Next := do
  mark (.extern f)
  pure (.value (← Extern.BytealgMakeNoZero.makeNoZero ps #[t] #[.int .i64 n]))

theorem ho_noZero (f : FuncId) (ps : Array TypeId) (t e : TypeId) (ht : P.underlying t = some (.slice e)) (n : Nat) (hn : n ≤ 281474976710656) :
    HO.holds P w0 PU.n ⟨noZeroSem f ps t n, [], [], fun u => (.slice (some ⟨u.n, 0, none⟩) n (u.y + n), [], [(u.n, .cells ⟨junk u.b 0 (u.y + n)⟩ e)])⟩ := by
  intro s F w g
  simp only [List.nil_append] at g
  have hdef : Extern.BytealgMakeNoZero.makeNoZero ps #[t] #[.int .i64 n] =
      (do
        let .slice elem ← underlying t | stuck "bytealg.MakeNoZero: slice type expected"
        if (n : Int) < 0 || (n : Int) > 2 ^ 48 then runtimePanic (.error "makeslice: len out of range")
        let cap ← choose (.appendCap (n : Int).toNat 0 elem)
        askRoom cap
        let bytes ← choose (.extern "internal/bytealg.MakeNoZero.bytes" 0)
        let a ← newRow elem (Extern.BytealgMakeNoZero.digits cap bytes #[])
        pure (.slice (some a) (n : Int).toNat cap)) := rfl
  have h1 : ¬ (n : Int) < 0 := by omega
  have h2 : ¬ (281474976710656 : Int) < (n : Int) := by omega
  have hge := grownCap_ge w n 0 e
  have hge : n ≤ grownCap w n 0 e := by simpa using hge
  refine ⟨⟨s, 0, grownCap w n 0 e - n, undef, [], fun i => (Question.extern "internal/bytealg.MakeNoZero.bytes" 0).cut (w.tape (w.drawn + 1) (.extern "internal/bytealg.MakeNoZero.bytes" 0)) / 256 ^ i % 256⟩, s + 1, w.drew.drew.alloc (.cells (Extern.BytealgMakeNoZero.digits (grownCap w n 0 e) ((Question.extern "internal/bytealg.MakeNoZero.bytes" 0).cut (w.tape (w.drawn + 1) (.extern "internal/bytealg.MakeNoZero.bytes" 0))) #[]) e), rfl, ?_, ?_⟩
  · simp only [noZeroSem]
    rw [hdef]
    simp [run_underlying ht, h1, h2, Question.forced, newRow, mark]
    simp only [Sem.run, Result.andThen]
    rw [Nat.sub_add_cancel hge, g.size]
    rfl
  · simp only [List.nil_append, Nat.sub_add_cancel hge]
    have hd : Extern.BytealgMakeNoZero.digits (grownCap w n 0 e) ((Question.extern "internal/bytealg.MakeNoZero.bytes" 0).cut (w.tape (w.drawn + 1) (.extern "internal/bytealg.MakeNoZero.bytes" 0))) #[] =
        ⟨junk (fun i => (Question.extern "internal/bytealg.MakeNoZero.bytes" 0).cut (w.tape (w.drawn + 1) (.extern "internal/bytealg.MakeNoZero.bytes" 0)) / 256 ^ i % 256) 0 (grownCap w n 0 e)⟩ := by
      apply Array.toList_inj.1
      rw [digits_junk]
      simp
    rw [hd]
    exact (((g.drew _).drew (w.drawn + 2)).new _)

/-- An operation that runs as another one. -/
theorem HO.holds.turn {U : Type} {sz : U → Nat} {m m' : Sem Next} {rd wr : List (Nat × Obj)} {res : U → Value × List (Nat × Obj) × List (Nat × Obj)} (h : HO.holds P w0 sz ⟨m', rd, wr, res⟩) (e : ∀ w, m.run P w = m'.run P w) : HO.holds P w0 sz ⟨m, rd, wr, res⟩ := by
  intro s F w g
  obtain ⟨u, s', w', h1, h2, h3⟩ := h s F w g
  exact ⟨u, s', w', h1, (e w).trans h2, h3⟩

def appendSemS (t u ty : TypeId) (x : Value) (s : ByteArray) : Sem Next := do pure (.value (← Builtin.append_ #[t, u] ty #[x, .string s]))

/-- a string behind nothing, in a row with room. -/
theorem ho_str (t u ty e : TypeId) (ht : P.underlying t = some (.slice e)) (hu : P.underlying u = some .string) (hi : (P.info? e).map (fun i => i.size) = some 1)
    (g c : Nat) (b : Nat → Nat) (k : Nat) (s : ByteArray) (hc : s.size ≤ c) (hk : s.size ≤ k) :
    HO.holds P w0 PU.n ⟨appendSemS t u ty (.slice (some ⟨g, 0, none⟩) 0 c) s, [], [(g, .cells ⟨junk b 0 k⟩ e)], fun _ => (.slice (some ⟨g, 0, none⟩) s.size c, [(g, .cells ⟨strCells s ++ (junk b 0 k).drop s.size⟩ e)], [])⟩ := by
  cases h : P.info? e with
  | none => rw [h] at hi; simp at hi
  | some i =>
    rw [h] at hi
    simp at hi
    intro s0 F w g0
    simp only [List.nil_append, List.cons_append] at g0
    have hw := g0.at (b := g) (o := .cells ⟨junk b 0 k⟩ e) (by simp)
    have hr := run_append_room_string (P := P) w t u ty e i ht hu h hi g 0 c ⟨junk b 0 k⟩ hw s (by omega) (by simp [junk_length]; omega)
    obtain ⟨v0, hv0⟩ := PU.any s0
    simp only [List.take_zero, Nat.zero_add, List.nil_append] at hr
    refine ⟨v0, s0, _, hv0, by simp only [appendSemS, Sem.run_bind, hr]; rfl, ?_⟩
    simp only [List.nil_append, List.cons_append]
    have := g0.turn (A := []) (B := F) (.cells ⟨strCells s ++ (junk b 0 k).drop s.size⟩ e)
    have hset : w.setRow g (strCells s ++ (junk b 0 k).drop s.size).toArray = { w with heap := w.heap.setIfInBounds g (.cells ⟨strCells s ++ (junk b 0 k).drop s.size⟩ e) } := by
      have hlt : g < w.heap.size := (Array.getElem?_eq_some_iff.1 hw).1
      have hge : w.heap[g] = .cells ⟨junk b 0 k⟩ e := (Array.getElem?_eq_some_iff.1 hw).2
      unfold World.setRow
      congr 1
      apply Array.ext_getElem?
      intro j
      rw [Array.getElem?_modify, Array.getElem?_setIfInBounds]
      by_cases h : g = j
      · subst h; simp [hlt, hge]
      · simp [h]
    rw [hset]
    exact this

/-- one pointer against itself. -/
def neqSem (t : TypeId) (x y : Operand) (b o : Nat) : Sem Next := do
  pure (.value (← (do eqGuard .neq t x y (.pointer (some ⟨b, o, none⟩)) (.pointer (some ⟨b, o, none⟩)); binOp .neq t (.pointer (some ⟨b, o, none⟩)) (.pointer (some ⟨b, o, none⟩)))))

theorem run_equal_self (t e : TypeId) (ht : P.underlying t = some (.pointer e)) (i : TypeInfo) (h : P.info? e = some i) (a : Addr) (w : World) :
    (Op.equal t (.pointer (some a)) (.pointer (some a))).run P w = .ok true w := by
  show (Op.equalIn (9999 + 1) t (.pointer (some a)) (.pointer (some a))).run P w = .ok true w
  unfold Op.equalIn
  simp [run_underlying ht, sizeOf, typeInfo, h, sameAddr]

theorem ho_neq (t e : TypeId) (x y : Operand) (ht : P.underlying t = some (.pointer e)) (n : Nat) (hi : (P.info? e).map (fun i => i.size) = some (n + 1)) (b o : Nat) :
    HO.holds P w0 PU.n ⟨neqSem t x y b o, [], [], fun _ => (.bool false, [], [])⟩ := by
  cases h : P.info? e with
  | none => rw [h] at hi; simp at hi
  | some i =>
    rw [h] at hi
    simp at hi
    intro s0 F w g0
    obtain ⟨v0, hv0⟩ := PU.any s0
    refine ⟨v0, s0, w, hv0, ?_, g0⟩
    have h1 : eqGuard .neq t x y (.pointer (some ⟨b, o, none⟩)) (.pointer (some ⟨b, o, none⟩)) = pure () := rfl
    have h2 : binOp .neq t (.pointer (some ⟨b, o, none⟩)) (.pointer (some ⟨b, o, none⟩)) = (do pure (.bool (!(← Op.equal t (.pointer (some ⟨b, o, none⟩)) (.pointer (some ⟨b, o, none⟩)))))) := rfl
    have h3 := run_equal_self (P := P) t e ht i h ⟨b, o, none⟩ w
    rw [neqSem, h1, h2]
    simp [h3]

end
end Go.Sx
