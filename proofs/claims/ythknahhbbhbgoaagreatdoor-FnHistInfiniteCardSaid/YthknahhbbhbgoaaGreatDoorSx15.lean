/- The reckoner of this claim's walks, its fifteenth part: a string's bytes, and a slice of the world ahead, behind a slice of the call's own. -/
import Derived.Test.YthknahhbbhbgoaaGreatDoorSx14
namespace Go.Sx
open Go Go.Lib

section
variable {P : Program} {w0 : World} {t t2 ty e : TypeId}

theorem setRow_is {w : World} {b : Nat} {c : Array Value} {te : TypeId} {f : Nat × Nat} (h : w.heap[b]? = some (.cells c te f)) (c' : Array Value) :
    w.setRow b c' = { w with heap := w.heap.setIfInBounds b (.cells c' te f) } := by
  have hlt : b < w.heap.size := (Array.getElem?_eq_some_iff.1 h).1
  have hge : w.heap[b] = .cells c te f := (Array.getElem?_eq_some_iff.1 h).2
  unfold World.setRow
  congr 1
  apply Array.ext_getElem?
  intro j
  rw [Array.getElem?_modify, Array.getElem?_setIfInBounds]
  by_cases h : b = j
  · subst h; simp [hlt, hge]
  · simp [h]

theorem append_own_str {i : TypeInfo} (ht : P.underlying t = some (.slice e)) (hu : P.underlying t2 = some .string) (hi : P.info? e = some i) (hz : i.zero = some (.int .u8 0)) (hsize : i.size = 1) (hby : i.bytes = 1)
    {s : Nat} {L : List (Nat × Obj)} {w : World} (bo n r : Nat) (xs : List Value) (hxs : xs.length = n) (g : Good w0 s ((bo, .cells ⟨xs ++ zc (.int .u8 0) r⟩ e) :: L) w) (x : ByteArray) (hb : n + x.size ≤ 140737488355328) :
    ∃ b' r' s' w', (Builtin.append_ #[t, t2] ty #[.slice (some ⟨bo, 0, none⟩) n (n + r), .string x]).run P w = .ok (.slice (some ⟨b', 0, none⟩) (n + x.size) (n + x.size + r')) w' ∧
      Good w0 s' ((b', .cells ⟨xs ++ strCells x ++ zc (.int .u8 0) r'⟩ e) :: L) w' := by
  have hw := g.at (b := bo) (o := .cells ⟨xs ++ zc (.int .u8 0) r⟩ e) (by simp)
  have hz1 : (Value.int .u8 0).cells.size = 1 := rfl
  by_cases hroom : x.size ≤ r
  · have hr := run_append_room_string (P := P) w t t2 ty e i ht hu hi hsize bo n (n + r) ⟨xs ++ zc (.int .u8 0) r⟩ hw x (by omega) (by simp [zc_length, hz1, hxs]; omega)
    refine ⟨bo, r - x.size, s, _, by rw [hr, show n + x.size + (r - x.size) = n + r by omega], ?_⟩
    have hc : ((⟨xs ++ zc (.int .u8 0) r⟩ : Array Value).toList.take n ++ strCells x ++ (⟨xs ++ zc (.int .u8 0) r⟩ : Array Value).toList.drop (n + x.size)) = xs ++ strCells x ++ zc (.int .u8 0) (r - x.size) := by
      rw [← hxs]
      simp only [List.take_left, ← List.drop_drop, List.drop_left]
      have := zc_drop (.int .u8 0) x.size r hroom
      rw [hz1, Nat.mul_one] at this
      rw [this]
    rw [hc, setRow_is hw]
    exact g.turn (A := []) (B := L) (.cells ⟨xs ++ strCells x ++ zc (.int .u8 0) (r - x.size)⟩ e)
  · have holds : ∀ j u, xs[j]? = some u → w.cell? ((⟨bo, 0, none⟩ : Addr).add j) = some u := by
      intro j u hj
      refine cells_at g (List.mem_cons_self) 0 j u ?_
      have hlt : j < xs.length := (List.getElem?_eq_some_iff.1 hj).1
      simp [List.getElem?_append_left hlt, hj]
    have hr := run_append_grow_string (P := P) w t t2 ty e i (.int .u8 0) ht hu hi hz ⟨bo, 0, none⟩ n (n + r) xs (by rw [hsize]; simpa using hxs) holds x (by omega) (by omega) (by rw [hby]; exact growslice_fits (by omega) (by omega))
    have hge := grownCap_ge w (n + x.size) (n + r) e
    refine ⟨s, grownCap w (n + x.size) (n + r) e - (n + x.size), s + 1, _, by rw [hr, g.size, show n + x.size + (grownCap w (n + x.size) (n + r) e - (n + x.size)) = grownCap w (n + x.size) (n + r) e by omega], ?_⟩
    have hc : (xs.toArray ++ (strCells x).toArray ++ Builtin.zeroCells (Value.int .u8 0).cells (grownCap w (n + x.size) (n + r) e - (n + x.size))) = (⟨xs ++ strCells x ++ zc (.int .u8 0) (grownCap w (n + x.size) (n + r) e - (n + x.size))⟩ : Array Value) := by
      apply Array.toList_inj.1
      simp [zeroCells_zc (.int .u8 0) (by rw [hz1]; omega)]
    rw [alloc_eq, hc]
    have g2 := (g.new (.cells ⟨xs ++ strCells x ++ zc (.int .u8 0) (grownCap w (n + x.size) (n + r) e - (n + x.size))⟩ e)).drew (w.drawn + 1)
    exact g2.sublist (List.Sublist.cons_cons _ (List.sublist_cons_self _ _))

/-- a string behind a slice of the call's own. -/
theorem ho_own_str (ht : P.underlying t = some (.slice e)) (hu : P.underlying t2 = some .string) (hinfo : (P.info? e).map (fun i => (i.zero, i.size, i.bytes)) = some (some (.int .u8 0), 1, 1))
    (bo n r : Nat) (xs : List Value) (hxs : xs.length = n) (x : ByteArray) (hb : n + x.size ≤ 140737488355328) :
    HO.holds P w0 PU.n ⟨appendSemS t t2 ty (.slice (some ⟨bo, 0, none⟩) n (n + r)) x, [], [(bo, .cells ⟨xs ++ zc (.int .u8 0) r⟩ e)],
      fun u => (.slice (some ⟨u.x, 0, none⟩) (n + x.size) (n + x.size + u.y), [(u.x, .cells ⟨xs ++ strCells x ++ zc (.int .u8 0) u.y⟩ e)], [])⟩ := by
  cases hi : P.info? e with
  | none => rw [hi] at hinfo; simp at hinfo
  | some i =>
    rw [hi] at hinfo
    simp only [Option.map_some, Option.some.injEq, Prod.mk.injEq] at hinfo
    intro s F w g
    simp only [List.nil_append, List.cons_append] at g
    obtain ⟨b', r', s', w', h1, g'⟩ := append_own_str (ty := ty) ht hu hi hinfo.1 hinfo.2.1 hinfo.2.2 bo n r xs hxs g x hb
    exact ⟨⟨s, b', r', undef, [], fun _ => 0⟩, s', w', rfl, by simp only [appendSemS, Sem.run_bind, h1]; rfl, g'⟩

/-- a slice that lies in the world ahead, behind a slice of the call's own. -/
theorem ho_own_old (z : Value) (sz bytes : Nat) (ht : P.underlying t = some (.slice e)) (hinfo : (P.info? e).map (fun i => (i.zero, i.size, i.bytes)) = some (some z, sz, bytes)) (hzs : z.cells.size = sz) (hsz : 0 < sz)
    (bo n r : Nat) (xs : List Value) (hxs : xs.length = n * sz) (a : Addr) (m c : Nat) (news : List Value) (hl : news.length = m * sz) (hold : ∀ j u, news[j]? = some u → w0.cell? (a.add j) = some u)
    (h1 : ∀ u ∈ news, u.oneCell' = true) (hb : (n + m) * bytes ≤ 140737488355328) (h63 : n + m ≤ 9223372036854775807) :
    HO.holds P w0 PU.n ⟨appendSem t ty (.slice (some ⟨bo, 0, none⟩) n (n + r)) (.slice (some a) m c), [], [(bo, .cells ⟨xs ++ zc z r⟩ e)],
      fun u => (.slice (some ⟨u.x, 0, none⟩) (n + m) (n + m + u.y), [(u.x, .cells ⟨xs ++ news ++ zc z u.y⟩ e)], [])⟩ := by
  cases hi : P.info? e with
  | none => rw [hi] at hinfo; simp at hinfo
  | some i =>
    rw [hi] at hinfo
    simp only [Option.map_some, Option.some.injEq, Prod.mk.injEq] at hinfo
    obtain ⟨h2, rfl, rfl⟩ := hinfo
    intro s F w g
    simp only [List.cons_append, List.nil_append] at g
    obtain ⟨b', r', s', w', h3, g'⟩ := append_own (ty := ty) ht hi h2 hzs hsz bo n r xs hxs g a m c news hl (by
      intro j u hj
      have h0 := hold j u hj
      have hlt : (a.add j).block < w0.heap.size := by
        unfold World.cell? at h0
        split at h0
        · rename_i hh; exact (Array.getElem?_eq_some_iff.1 hh).1
        · simp at h0
      rw [← h0]
      simp [World.cell?, g.old _ hlt]) h1 hb h63
    exact ⟨⟨s, b', r', undef, [], fun _ => 0⟩, s', w', rfl, appendSem_run h3, g'⟩

theorem old1 {a : Addr} {v : Value} (h : w0.cell? (a.add 0) = some v) : ∀ j u, ([v] : List Value)[j]? = some u → w0.cell? (a.add j) = some u := by
  intro j u hj
  cases j with
  | zero => simp at hj; subst hj; exact h
  | succ j => simp at hj

end
end Go.Sx
