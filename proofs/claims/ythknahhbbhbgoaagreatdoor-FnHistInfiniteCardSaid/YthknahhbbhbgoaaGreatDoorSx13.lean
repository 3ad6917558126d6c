/- The reckoner of this claim's walks, its thirteenth part: append. -/
import Derived.Test.YthknahhbbhbgoaaGreatDoorSx12
import Derived.OwnWalk
namespace Go.Sx
open Go

/-- r zero elements. -/
def zc (z : Value) : Nat → List Value
  | 0 => []
  | r + 1 => z.cells.toList ++ zc z r

theorem zc_length (z : Value) : ∀ r, (zc z r).length = r * z.cells.size
  | 0 => by simp [zc]
  | r + 1 => by simp [zc, zc_length z r, Nat.add_mul, Nat.add_comm]

theorem zc_drop (z : Value) : ∀ (m r : Nat), m ≤ r → (zc z r).drop (m * z.cells.size) = zc z (r - m)
  | 0, r, _ => by simp
  | m + 1, 0, h => by omega
  | m + 1, r + 1, h => by
    have e : (m + 1) * z.cells.size = z.cells.toList.length + m * z.cells.size := by simp [Nat.add_mul, Nat.add_comm]
    rw [e]
    simp only [zc, ← List.drop_drop]
    rw [List.drop_left, zc_drop z m r (by omega)]
    congr 1
    omega

theorem zeroCells_zc (z : Value) (hz : 0 < z.cells.size) : ∀ (n : Nat), (Builtin.zeroCells z.cells n).toList = zc z n := by
  intro n
  have key : ∀ (c : Array Value) (m : Nat), 0 < c.size → (List.range (m * c.size)).map (fun i => c[i % c.size]!) = (List.replicate m c.toList).flatten := by
    intro c m hc
    induction m with
    | zero => simp
    | succ m ih =>
      rw [List.replicate_succ', List.flatten_append, ← ih, Nat.add_mul, Nat.one_mul, List.range_add, List.map_append]
      congr 1
      simp only [List.map_map, List.flatten_cons, List.flatten_nil, List.append_nil]
      apply List.ext_getElem
      · simp
      · intro j h1 h2
        have hj : j < c.size := by simpa using h1
        simp [Nat.mul_add_mod_self_right, Nat.mod_eq_of_lt hj, hj]
  have e2 : ∀ m, zc z m = (List.replicate m z.cells.toList).flatten := by
    intro m
    induction m with
    | zero => rfl
    | succ m ih => simp [zc, ih, List.replicate_succ]
  rw [e2, ← key z.cells n hz]
  simp [Builtin.zeroCells]

theorem cells_at {w0 w : World} {s : Nat} {L : List (Nat × Obj)} (g : Good w0 s L w) {b : Nat} {cs : Array Value} {t : TypeId} {f : Nat × Nat} (hm : (b, Obj.cells cs t f) ∈ L) (off : Nat) (j : Nat) (u : Value)
    (h : cs[off + j]? = some u) : w.cell? ((⟨b, off, none⟩ : Addr).add j) = some u := by
  have hw := g.at hm
  have : (⟨b, off, none⟩ : Addr).add j = ⟨b, off + j, none⟩ := by
    unfold Addr.add
    split
    · rename_i h0; subst h0; rfl
    · rfl
  rw [this]
  simp [World.cell?, hw, h]

theorem alloc_eq (w : World) (o : Obj) : w.drew.alloc o = { w with heap := w.heap.push o, drawn := w.drawn + 1 } := rfl

section
variable {P : Program} {w0 : World} {t ty e : TypeId} {i : TypeInfo} {z : Value}

/-- append to a nil slice. -/
theorem append_nil (ht : P.underlying t = some (.slice e)) (hi : P.info? e = some i) (hz : i.zero = some z) (hzs : z.cells.size = i.size) (hsz : 0 < i.size)
    {s : Nat} {L : List (Nat × Obj)} {w : World} (g : Good w0 s L w) (a : Addr) (m c : Nat) (news : List Value) (hl : news.length = m * i.size) (hnews : ∀ j u, news[j]? = some u → w.cell? (a.add j) = some u)
    (h0 : 0 < m) (hb : m * i.bytes ≤ 140737488355328) (h63 : m ≤ 9223372036854775807) :
    ∃ r w', (Builtin.append_ #[t, t] ty #[.slice none 0 0, .slice (some a) m c]).run P w = .ok (.slice (some ⟨s, 0, none⟩) m (m + r)) w' ∧ Good w0 (s + 1) ((s, .cells ⟨news ++ zc z r⟩ e) :: L) w' := by
  have hr := run_append_nil (P := P) w t ty e i z ht hi hz a m c news hl hnews h0 (by omega) (by omega)
  have hge := grownCap_ge w m 0 e
  refine ⟨grownCap w m 0 e - m, w.drew.alloc (.cells (news.toArray ++ Builtin.zeroCells z.cells (grownCap w m 0 e - m)) e), ?_, ?_⟩
  · rw [hr, g.size, show m + (grownCap w m 0 e - m) = grownCap w m 0 e by omega]
  · have hc : (news.toArray ++ Builtin.zeroCells z.cells (grownCap w m 0 e - m)) = (⟨news ++ zc z (grownCap w m 0 e - m)⟩ : Array Value) := by
      apply Array.toList_inj.1
      simp [zeroCells_zc z (by omega)]
    rw [alloc_eq, hc]
    exact (g.new _).drew _

/-- append to a slice of the call's own. -/
theorem append_own (ht : P.underlying t = some (.slice e)) (hi : P.info? e = some i) (hz : i.zero = some z) (hzs : z.cells.size = i.size) (hsz : 0 < i.size)
    {s : Nat} {L : List (Nat × Obj)} {w : World} (bo n r : Nat) (xs : List Value) (hxs : xs.length = n * i.size) (g : Good w0 s ((bo, .cells ⟨xs ++ zc z r⟩ e) :: L) w) (a : Addr) (m c : Nat) (news : List Value) (hl : news.length = m * i.size)
    (hnews : ∀ j u, news[j]? = some u → w.cell? (a.add j) = some u) (h1 : ∀ u ∈ news, u.oneCell' = true) (hb : (n + m) * i.bytes ≤ 140737488355328) (h63 : n + m ≤ 9223372036854775807) :
    ∃ b' r' s' w', (Builtin.append_ #[t, t] ty #[.slice (some ⟨bo, 0, none⟩) n (n + r), .slice (some a) m c]).run P w = .ok (.slice (some ⟨b', 0, none⟩) (n + m) (n + m + r')) w' ∧
      Good w0 s' ((b', .cells ⟨xs ++ news ++ zc z r'⟩ e) :: L) w' := by
  have hw := g.at (b := bo) (o := .cells ⟨xs ++ zc z r⟩ e) (by simp)
  by_cases hroom : m ≤ r
  · have hr := run_append_room (P := P) w t ty e i ht hi bo n (n + r) ⟨xs ++ zc z r⟩ hw a m c news hl hnews h1 (by omega) (by
      simp only [List.size_toArray, List.length_append, zc_length, hzs, hxs, hl]
      exact Nat.add_le_add_left (Nat.mul_le_mul_right _ hroom) _)
    refine ⟨bo, r - m, s, w.setRow bo ((⟨xs ++ zc z r⟩ : Array Value).toList.take (n * i.size) ++ news ++ (⟨xs ++ zc z r⟩ : Array Value).toList.drop (n * i.size + news.length)).toArray, ?_, ?_⟩
    · rw [hr, show n + m + (r - m) = n + r by omega]
    · have hc : ((⟨xs ++ zc z r⟩ : Array Value).toList.take (n * i.size) ++ news ++ (⟨xs ++ zc z r⟩ : Array Value).toList.drop (n * i.size + news.length)) = xs ++ news ++ zc z (r - m) := by
        rw [← hxs]
        simp only [List.take_left, ← List.drop_drop, List.drop_left]
        rw [hl, ← hzs, zc_drop z m r hroom]
      rw [hc]
      have := g.turn (A := []) (B := L) (.cells ⟨xs ++ news ++ zc z (r - m)⟩ e)
      have hset : w.setRow bo (xs ++ news ++ zc z (r - m)).toArray = { w with heap := w.heap.setIfInBounds bo (.cells ⟨xs ++ news ++ zc z (r - m)⟩ e) } := by
        have hlt : bo < w.heap.size := (Array.getElem?_eq_some_iff.1 hw).1
        have hge : w.heap[bo] = .cells ⟨xs ++ zc z r⟩ e := (Array.getElem?_eq_some_iff.1 hw).2
        unfold World.setRow
        congr 1
        apply Array.ext_getElem?
        intro j
        rw [Array.getElem?_modify, Array.getElem?_setIfInBounds]
        by_cases h : bo = j
        · subst h; simp [hlt, hge]
        · simp [h]
      rw [hset]
      exact this
  · have holds : ∀ j u, xs[j]? = some u → w.cell? ((⟨bo, 0, none⟩ : Addr).add j) = some u := by
      intro j u hj
      refine cells_at g (List.mem_cons_self) 0 j u ?_
      have hlt : j < xs.length := (List.getElem?_eq_some_iff.1 hj).1
      simp [List.getElem?_append_left hlt, hj]
    have hr := run_append_grow (P := P) w t ty e i z ht hi hz ⟨bo, 0, none⟩ n (n + r) xs hxs holds a m c news hl hnews (by omega) (by omega) (growslice_fits (by omega) hb)
    have hge := grownCap_ge w (n + m) (n + r) e
    refine ⟨s, grownCap w (n + m) (n + r) e - (n + m), s + 1, w.drew.alloc (.cells (xs.toArray ++ news.toArray ++ Builtin.zeroCells z.cells (grownCap w (n + m) (n + r) e - (n + m))) e), ?_, ?_⟩
    · rw [hr, g.size, show n + m + (grownCap w (n + m) (n + r) e - (n + m)) = grownCap w (n + m) (n + r) e by omega]
    · have hc : (xs.toArray ++ news.toArray ++ Builtin.zeroCells z.cells (grownCap w (n + m) (n + r) e - (n + m))) = (⟨xs ++ news ++ zc z (grownCap w (n + m) (n + r) e - (n + m))⟩ : Array Value) := by
        apply Array.toList_inj.1
        simp [zeroCells_zc z (by omega)]
      rw [alloc_eq, hc]
      have g2 := (g.new (.cells ⟨xs ++ news ++ zc z (grownCap w (n + m) (n + r) e - (n + m))⟩ e)).drew (w.drawn + 1)
      exact g2.sublist (by
        refine List.Sublist.cons_cons _ ?_
        exact List.sublist_cons_self _ _)

/-- The operation 'append' itself. -/
def appendSem (t ty : TypeId) (x y : Value) : Sem Next := do pure (.value (← Builtin.append_ #[t, t] ty #[x, y]))

theorem appendSem_run {w w' : World} {x y v : Value} (h : (Builtin.append_ #[t, t] ty #[x, y]).run P w = .ok v w') : (appendSem t ty x y).run P w = .ok (.value v) w' := by
  simp [appendSem, h]

theorem ho_append_nil (ht : P.underlying t = some (.slice e)) (hi : P.info? e = some i) (hz : i.zero = some z) (hzs : z.cells.size = i.size) (hsz : 0 < i.size)
    (b off m c : Nat) (cs : List Value) (te : TypeId) (f : Nat × Nat) (news : List Value) (hcut : (cs.drop off).take (m * i.size) = news) (hl : news.length = m * i.size)
    (h0 : 0 < m) (hb : m * i.bytes ≤ 140737488355328) (h63 : m ≤ 9223372036854775807) :
    HO.holds P w0 PU.n ⟨appendSem t ty (.slice none 0 0) (.slice (some ⟨b, off, none⟩) m c), [(b, .cells ⟨cs⟩ te f)], [], fun u => (.slice (some ⟨u.n, 0, none⟩) m (m + u.y), [], [(u.n, .cells ⟨news ++ zc z u.y⟩ e)])⟩ := by
  intro s F w g
  simp only [List.cons_append, List.nil_append] at g
  obtain ⟨r, w', h1, g'⟩ := append_nil (ty := ty) ht hi hz hzs hsz g ⟨b, off, none⟩ m c news hl (by
    intro j u hj
    refine cells_at g (List.mem_cons_self) off j u ?_
    have hlt : j < news.length := (List.getElem?_eq_some_iff.1 hj).1
    rw [← hcut, List.getElem?_take_of_lt (by omega), List.getElem?_drop] at hj
    simpa using hj) h0 hb h63
  refine ⟨⟨s, 0, r, undef, [], fun _ => 0⟩, s + 1, w', rfl, appendSem_run h1, ?_⟩
  exact g'.perm (List.Perm.swap _ _ _)

theorem ho_append_own (ht : P.underlying t = some (.slice e)) (hi : P.info? e = some i) (hz : i.zero = some z) (hzs : z.cells.size = i.size) (hsz : 0 < i.size)
    (bo n r : Nat) (xs : List Value) (hxs : xs.length = n * i.size) (b off m c : Nat) (cs : List Value) (te : TypeId) (f : Nat × Nat) (news : List Value) (hcut : (cs.drop off).take (m * i.size) = news) (hl : news.length = m * i.size)
    (h1 : ∀ u ∈ news, u.oneCell' = true) (hb : (n + m) * i.bytes ≤ 140737488355328) (h63 : n + m ≤ 9223372036854775807) :
    HO.holds P w0 PU.n ⟨appendSem t ty (.slice (some ⟨bo, 0, none⟩) n (n + r)) (.slice (some ⟨b, off, none⟩) m c), [(b, .cells ⟨cs⟩ te f)], [(bo, .cells ⟨xs ++ zc z r⟩ e)],
      fun u => (.slice (some ⟨u.x, 0, none⟩) (n + m) (n + m + u.y), [(u.x, .cells ⟨xs ++ news ++ zc z u.y⟩ e)], [])⟩ := by
  intro s F w g
  simp only [List.cons_append, List.nil_append] at g
  have g1 := g.perm (List.Perm.swap (b, Obj.cells ⟨cs⟩ te f) (bo, Obj.cells ⟨xs ++ zc z r⟩ e) F).symm.symm
  obtain ⟨b', r', s', w', h2, g'⟩ := append_own (ty := ty) ht hi hz hzs hsz bo n r xs hxs g1 ⟨b, off, none⟩ m c news hl (by
    intro j u hj
    refine cells_at g (List.mem_cons_self) off j u ?_
    have hlt : j < news.length := (List.getElem?_eq_some_iff.1 hj).1
    rw [← hcut, List.getElem?_take_of_lt (by omega), List.getElem?_drop] at hj
    simpa using hj) h1 hb h63
  refine ⟨⟨s, b', r', undef, [], fun _ => 0⟩, s', w', rfl, appendSem_run h2, ?_⟩
  exact g'.perm (List.Perm.swap _ _ _)

theorem ho_nil (z : Value) (sz bytes : Nat) (ht : P.underlying t = some (.slice e)) (hinfo : (P.info? e).map (fun i => (i.zero, i.size, i.bytes)) = some (some z, sz, bytes)) (hzs : z.cells.size = sz) (hsz : 0 < sz)
    (b off m c : Nat) (cs : List Value) (te : TypeId) (f : Nat × Nat) (news : List Value) (hcut : (cs.drop off).take (m * sz) = news) (hl : news.length = m * sz)
    (h0 : 0 < m) (hb : m * bytes ≤ 140737488355328) (h63 : m ≤ 9223372036854775807) :
    HO.holds P w0 PU.n ⟨appendSem t ty (.slice none 0 0) (.slice (some ⟨b, off, none⟩) m c), [(b, .cells ⟨cs⟩ te f)], [], fun u => (.slice (some ⟨u.n, 0, none⟩) m (m + u.y), [], [(u.n, .cells ⟨news ++ zc z u.y⟩ e)])⟩ := by
  cases hi : P.info? e with
  | none => rw [hi] at hinfo; simp at hinfo
  | some i =>
    rw [hi] at hinfo
    simp only [Option.map_some, Option.some.injEq, Prod.mk.injEq] at hinfo
    obtain ⟨h1, rfl, rfl⟩ := hinfo
    exact ho_append_nil ht hi h1 hzs hsz b off m c cs te f news hcut hl h0 hb h63

theorem ho_own (z : Value) (sz bytes : Nat) (ht : P.underlying t = some (.slice e)) (hinfo : (P.info? e).map (fun i => (i.zero, i.size, i.bytes)) = some (some z, sz, bytes)) (hzs : z.cells.size = sz) (hsz : 0 < sz)
    (bo n r : Nat) (xs : List Value) (hxs : xs.length = n * sz) (b off m c : Nat) (cs : List Value) (te : TypeId) (f : Nat × Nat) (news : List Value) (hcut : (cs.drop off).take (m * sz) = news) (hl : news.length = m * sz)
    (h1 : ∀ u ∈ news, u.oneCell' = true) (hb : (n + m) * bytes ≤ 140737488355328) (h63 : n + m ≤ 9223372036854775807) :
    HO.holds P w0 PU.n ⟨appendSem t ty (.slice (some ⟨bo, 0, none⟩) n (n + r)) (.slice (some ⟨b, off, none⟩) m c), [(b, .cells ⟨cs⟩ te f)], [(bo, .cells ⟨xs ++ zc z r⟩ e)],
      fun u => (.slice (some ⟨u.x, 0, none⟩) (n + m) (n + m + u.y), [(u.x, .cells ⟨xs ++ news ++ zc z u.y⟩ e)], [])⟩ := by
  cases hi : P.info? e with
  | none => rw [hi] at hinfo; simp at hinfo
  | some i =>
    rw [hi] at hinfo
    simp only [Option.map_some, Option.some.injEq, Prod.mk.injEq] at hinfo
    obtain ⟨h2, rfl, rfl⟩ := hinfo
    exact ho_append_own ht hi h2 hzs hsz bo n r xs hxs b off m c cs te f news hcut hl h1 hb h63

end
end Go.Sx
