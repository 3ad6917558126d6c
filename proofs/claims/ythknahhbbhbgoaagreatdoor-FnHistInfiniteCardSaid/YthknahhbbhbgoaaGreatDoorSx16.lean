/- The reckoner of this claim's walks, its sixteenth part: make, where the length is not known. -/
import Derived.Test.YthknahhbbhbgoaaGreatDoorSx15
import Derived.Laws.MakeOwn
namespace Go.Sx
open Go

section
variable {P : Program} {w0 : World}

def makeSem (t : TypeId) (n : Nat) : Sem Next := do pure (.value (← Instr.makeSlice t (.int .i64 n) (.int .i64 n)))

theorem madeCells_one (z : Value) (hz : z.cells = #[z]) (n : Nat) : madeCells z.cells n = ⟨List.replicate n z⟩ := by
  rw [hz]
  apply Array.ext
  · simp [madeCells]
  · intro i h1 h2
    simp [madeCells, Nat.mod_one]

theorem ho_make (t e : TypeId) (z : Value) (bytes : Nat) (ht : P.underlying t = some (.slice e)) (hinfo : (P.info? e).map (fun i => (i.zero, i.size, i.bytes)) = some (some z, 1, bytes)) (hz : z.cells = #[z])
    (n : Nat) (hb : bytes * n ≤ 281474976710656) (h63 : n ≤ 9223372036854775807) :
    HO.holds P w0 PU.n ⟨makeSem t n, [], [], fun u => (.slice (some ⟨u.n, 0, none⟩) n n, [], [(u.n, .cells ⟨List.replicate n z⟩ e)])⟩ := by
  cases hi : P.info? e with
  | none => rw [hi] at hinfo; simp at hinfo
  | some i =>
    rw [hi] at hinfo
    simp only [Option.map_some, Option.some.injEq, Prod.mk.injEq] at hinfo
    obtain ⟨h1, h2, h3⟩ := hinfo
    intro s F w g
    simp only [List.nil_append] at g
    have hr := run_make (P := P) w t e i z ht hi h1 .i64 .i64 n n (by omega) (Int.le_refl _) (by
      rw [h3]; have : ((bytes * n : Nat) : Int) ≤ 281474976710656 := by omega
      rwa [Int.natCast_mul] at this) (by omega)
    refine ⟨⟨s, 0, 0, undef, [], fun _ => 0⟩, s + 1, w.alloc (Obj.cells (madeCells z.cells ((n : Int).toNat * i.size)) e), rfl, ?_, ?_⟩
    · show (makeSem t n).run P w = _
      unfold makeSem
      simp only [Sem.run_bind, hr]
      rw [g.size]
      rfl
    · simp only [List.nil_append, Int.toNat_natCast, h2, Nat.mul_one, madeCells_one z hz]
      exact g.new _

def indexSem (t : TypeId) (x i : Value) : Sem Next := do pure (.value (← Instr.indexAt t x i))

/-- The address of an element. -/
theorem ho_index (t e : TypeId) (sz : Nat) (ht : P.underlying t = some (.slice e)) (hinfo : (P.info? e).map (fun i => i.size) = some sz) (b n c i : Nat) (hi : i < n) :
    HO.holds P w0 PU.n ⟨indexSem t (.slice (some ⟨b, 0, none⟩) n c) (.int .i64 i), [], [], fun _ => (.pointer (some ⟨b, i * sz, none⟩), [], [])⟩ := by
  cases h : P.info? e with
  | none => rw [h] at hinfo; simp at hinfo
  | some inf =>
    rw [h] at hinfo
    simp only [Option.map_some, Option.some.injEq] at hinfo
    intro s F w g
    simp only [List.nil_append] at g
    refine ⟨⟨s, 0, 0, undef, [], fun _ => 0⟩, s, w, rfl, ?_, ?_⟩
    · have hlt : (0 : Int) ≤ (i : Int) ∧ (i : Int) < (n : Int) := by omega
      have ha : (⟨b, 0, none⟩ : Addr).add (i * sz) = ⟨b, i * sz, none⟩ := by
        unfold Addr.add
        split
        · rename_i h0; rw [h0]
        · simp
      show (indexSem t (.slice (some ⟨b, 0, none⟩) n c) (.int .i64 i)).run P w = _
      simp [indexSem, Instr.indexAt, asIntOf, run_underlying ht, sizeOf, typeInfo, h, hinfo, hlt, ha]
      intro hc
      omega
    · simp only [List.nil_append]
      exact g

/-- An operation beside blocks that it leaves alone; what it gives may be told anew. -/
theorem HO.holds.frame {m : Sem Next} {rd : List (Nat × Obj)} {res res' : PU → Value × List (Nat × Obj) × List (Nat × Obj)} (h : HO.holds P w0 PU.n ⟨m, rd, [], res⟩) (X : List (Nat × Obj))
    (hr : ∀ u, (res u).2.1 = [] ∧ ∃ u' : PU, u'.n = u.n ∧ res' u' = ((res u).1, X, (res u).2.2)) : HO.holds P w0 PU.n ⟨m, rd, X, res'⟩ := by
  intro s F w g
  obtain ⟨u, s', w', h1, h2, h3⟩ := h s (X ++ F) w (by simpa using g)
  obtain ⟨he, u', hn, hu⟩ := hr u
  refine ⟨u', s', w', hn.trans h1, ?_, ?_⟩
  · show _ = Result.ok (Next.value (res' u').1) w'
    rw [hu]; exact h2
  · show Good w0 s' (rd ++ ((res' u').2.1 ++ ((res' u').2.2 ++ F))) w'
    rw [hu]
    have h3' : Good w0 s' (rd ++ ((res u).2.1 ++ ((res u).2.2 ++ (X ++ F)))) w' := h3
    rw [he] at h3'
    simp only [List.nil_append] at h3'
    refine h3'.perm ?_
    refine List.Perm.append_left rd ?_
    simp only [← List.append_assoc]
    exact List.Perm.append_right F List.perm_append_comm

end
end Go.Sx
