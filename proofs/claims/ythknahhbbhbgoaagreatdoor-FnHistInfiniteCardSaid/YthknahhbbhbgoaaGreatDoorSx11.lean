/- The reckoner of this claim's walks, its eleventh part: whatever order a region draws. -/
import Derived.Test.YthknahhbbhbgoaaGreatDoorSx10
namespace Go.Sx
open Go

theorem mem_insN {x y : Nat} {l : List Nat} : y ∈ insN x l → y = x ∨ y ∈ l := by
  unfold insN
  split
  · exact .inr
  · intro h; simpa using h

theorem mem_unionN {y : Nat} : ∀ {l m : List Nat}, y ∈ unionN l m → y ∈ l ∨ y ∈ m
  | [], m, h => .inr h
  | x :: l, m, h => by
    rcases mem_unionN (l := l) h with h | h
    · exact .inl (by simp [h])
    · rcases mem_insN h with rfl | h
      · exact .inl (by simp)
      · exact .inr h

theorem mem_befOf {acc : List (List Nat)} {k : Nat} : ∀ {es : List Nat}, k ∈ befOf acc es → ∃ e ∈ es, k = e ∨ k ∈ (lget acc e).getD []
  | [], h => by simp [befOf] at h
  | e :: es, h => by
    simp only [befOf] at h
    rcases mem_insN h with rfl | h
    · exact ⟨k, by simp, .inl rfl⟩
    · rcases mem_unionN h with h | h
      · exact ⟨e, by simp, .inr h⟩
      · obtain ⟨e', he, hk⟩ := mem_befOf h
        exact ⟨e', by simp [he], hk⟩

theorem lget_append {α : Type} : ∀ (l m : List α) (i : Nat), i < l.length → lget (l ++ m) i = lget l i
  | a :: l, m, 0, _ => rfl
  | a :: l, m, i + 1, h => lget_append l m i (by simpa using h)
  | [], _, _, h => by simp at h

theorem lget_length {α : Type} (a : α) : ∀ (l : List α), lget (l ++ [a]) l.length = some a
  | [] => rfl
  | _ :: l => lget_length a l

/-- What comes before an operation comes before through an edge. -/
theorem befs_spec : ∀ (os : List Oper) (acc : List (List Nat)), ∃ tl, befs os acc = acc ++ tl ∧ tl.length = os.length ∧
    ∀ j o, os[j]? = some o → (edgesOf o).all (fun e => Nat.blt e (acc.length + j)) = true → ∀ k ∈ (lget (befs os acc) (acc.length + j)).getD [], ∃ e ∈ edgesOf o, k = e ∨ k ∈ (lget (befs os acc) e).getD []
  | [], acc => ⟨[], by simp [befs], rfl, fun j o h => by simp at h⟩
  | o :: os, acc => by
    obtain ⟨tl, h1, h2, h3⟩ := befs_spec os (acc ++ [befOf acc (edgesOf o)])
    refine ⟨befOf acc (edgesOf o) :: tl, by simp [befs, forceL_eq, h1], by simp [h2], ?_⟩
    intro j o' hj hall k hk
    simp only [befs, forceL_eq] at hk ⊢
    cases j with
    | zero =>
      simp at hj
      subst hj
      have e1 : (lget (befs os (acc ++ [befOf acc (edgesOf o)])) (acc.length + 0)).getD [] = befOf acc (edgesOf o) := by
        rw [h1, lget_append _ _ _ (by simp), Nat.add_zero, lget_length]
        rfl
      rw [e1] at hk
      obtain ⟨e, he, hk⟩ := mem_befOf hk
      refine ⟨e, he, hk.imp id fun hk => ?_⟩
      have hlt : e < acc.length := by
        have := List.all_eq_true.1 hall e he
        simpa [Nat.blt_eq] using this
      rw [h1, lget_append _ _ _ (by simp; omega), lget_append _ _ _ hlt]
      exact hk
    | succ j =>
      have := h3 j o' (by simpa using hj) (by simpa [Nat.add_assoc, Nat.add_comm 1 j] using hall) k (by simpa [Nat.add_assoc, Nat.add_comm 1 j] using hk)
      simpa using this

theorem disj_spec {l m : List Nat} (h : disj l m = true) : ∀ p ∈ l, p ∉ m := by
  induction l with
  | nil => simp
  | cons x l ih =>
    simp only [disj] at h
    split at h
    · simp at h
    · rename_i hx
      intro p hp
      rcases List.mem_cons.1 hp with rfl | hp
      · simpa using hx
      · exact ih h p hp

theorem indep_spec {U : Type} {ops : Array Oper} {x y : Oper} {a b : RA U} (h : indep ops x y a b = true) : Apart ops x y a b := by
  simp only [indep, Bool.and_eq_true] at h
  obtain ⟨⟨⟨h1, _⟩, h3⟩, h4⟩ := h
  have e := Oper.apart_spec h1
  exact ⟨e.1, e.2.1, e.2.2, disj_spec h3, disj_spec h4⟩

theorem okWith_spec {U : Type} {ops : Array Oper} {o : Oper} {a : RA U} {bef : List Nat} : ∀ (xs : List Oper) (bs : List (RA U)) (k : Nat), okWith ops o a bef k xs bs = true →
    ∀ j x, xs[j]? = some x → ∃ b, bs[j]? = some b ∧ (k + j ∈ bef ∨ Apart ops x o b a)
  | [], _, _, _, j, x, h => by simp at h
  | x0 :: xs, [], k, h, j, x, hj => by simp [okWith] at h
  | x0 :: xs, b0 :: bs, k, h, j, x, hj => by
    simp only [okWith, Bool.and_eq_true] at h
    cases j with
    | zero =>
      simp at hj
      subst hj
      refine ⟨b0, rfl, ?_⟩
      have := h.1
      split at this
      · rename_i he
        exact .inl (by simpa using he)
      · exact .inr (indep_spec this)
    | succ j =>
      obtain ⟨b, hb, hh⟩ := okWith_spec xs bs (k + 1) h.2 j x (by simpa using hj)
      exact ⟨b, by simpa using hb, by simpa [Nat.add_assoc, Nat.add_comm 1 j] using hh⟩

theorem okFrom_spec {U : Type} {ops : Array Oper} {bs : List (List Nat)} {os0 : List Oper} {as0 : List (RA U)} : ∀ (os : List Oper) (as : List (RA U)) (i : Nat), okFrom ops bs os0 as0 i os as = true →
    ∀ j o, os[j]? = some o → ∃ a, as[j]? = some a ∧ okWith ops o a ((lget bs (i + j)).getD []) 0 (os0.take (i + j)) (as0.take (i + j)) = true ∧ (edgesOf o).all (fun e => Nat.blt e (i + j)) = true
  | [], _, _, _, j, o, h => by simp at h
  | o0 :: os, [], i, h, j, o, hj => by simp [okFrom] at h
  | o0 :: os, a0 :: as, i, h, j, o, hj => by
    simp only [okFrom, Bool.and_eq_true] at h
    cases j with
    | zero =>
      simp at hj
      subst hj
      exact ⟨a0, rfl, h.1.1, h.1.2⟩
    | succ j =>
      obtain ⟨a, ha, h1, h2⟩ := okFrom_spec os as (i + 1) h.2 j o (by simpa using hj)
      exact ⟨a, by simpa using ha, by simpa [Nat.add_assoc, Nat.add_comm 1 j] using h1, by simpa [Nat.add_assoc, Nat.add_comm 1 j] using h2⟩

section
variable {U : Type} {P : Program} {sz : U → Nat} {ops : Array Oper} {ds : List Deferred} {ans : List (RA U)} {w0 : World}

theorem execs_congr : ∀ (is : List Nat) (ν ν' : Nat → U) (S : RS), (∀ i ∈ is, ν i = ν' i) → execs P sz ops ds ans is ν S = execs P sz ops ds ans is ν' S
  | [], _, _, _, _ => rfl
  | i :: is, ν, ν', S, h => by
    simp only [execs]
    rw [h i (by simp)]
    cases exec P sz ops ds ans S i (ν' i) with
    | none => rfl
    | some r =>
      simp only []
      rw [execs_congr is ν ν' r.1 (fun j hj => h j (by simp [hj]))]

def unlisted (ops : Array Oper) (listed : Array Bool) : List Nat := (List.range ops.size).filter fun j => !listed.getD j true

theorem wpAny_loud {Q : Exit → Act → World → Prop} {F : List (Nat × Obj)} {K : RS → Prop} (hsz : ∀ n, ∃ u, sz u = n) (hok : okRegion ops ans = true)
    (hQ : ∀ S' s' w', K S' → Good w0 s' (live S'.H ++ F) w' → Q .normal ⟨⟨S'.T⟩, ds⟩ w') :
    ∀ (fuel : Nat) (listed : Array Bool) (S : RS) (s : Nat) (w : World), listed.size = ops.size → (unlisted ops listed).length = fuel →
      (∀ j, listed.getD j true = true → j < ops.size → ∀ k ∈ (lget (befs ops.toList []) j).getD [], listed.getD k true = true) →
      (∀ ν, ∃ S' bs, execs P sz ops ds ans (unlisted ops listed) ν S = some (S', bs) ∧ (∀ b ∈ bs, b.holds P w0 F sz) ∧ K S') →
      Good w0 s (live S.H ++ F) w → wpAny P .any ops Q fuel listed ⟨⟨S.T⟩, ds⟩ w := by
  simp only [okRegion, Bool.and_eq_true] at hok
  obtain ⟨hsel, hfrom⟩ := hok
  have hsel' := Region.noSelect_spec hsel
  have facts : ∀ i o, ops[i]? = some o → ∃ a, ans[i]? = some a ∧ (∀ k x, k < i → ops[k]? = some x → ∃ b, ans[k]? = some b ∧ (k ∈ (lget (befs ops.toList []) i).getD [] ∨ Apart ops x o b a)) ∧
      (∀ e ∈ edgesOf o, e < i) ∧ ∀ k ∈ (lget (befs ops.toList []) i).getD [], ∃ e ∈ edgesOf o, k = e ∨ k ∈ (lget (befs ops.toList []) e).getD [] := by
    intro i o ho
    obtain ⟨a, ha, h1, h2⟩ := okFrom_spec ops.toList ans 0 hfrom i o (by simpa using ho)
    simp only [Nat.zero_add] at h1 h2
    refine ⟨a, ha, ?_, ?_, ?_⟩
    · intro k x hk hx
      have hx' : (ops.toList.take i)[k]? = some x := by rw [List.getElem?_take_of_lt hk]; simpa using hx
      obtain ⟨b, hb, hh⟩ := okWith_spec _ _ 0 h1 k x hx'
      rw [List.getElem?_take_of_lt hk] at hb
      exact ⟨b, hb, by simpa using hh⟩
    · intro e he
      have := List.all_eq_true.1 h2 e he
      simpa [Nat.blt_eq] using this
    · obtain ⟨tl, _, _, h3⟩ := befs_spec ops.toList []
      have := h3 i o (by simpa using ho) (by simpa using h2)
      simpa using this
  intro fuel
  induction fuel with
  | zero =>
    intro listed S s w hsize hlen hB hex g
    have hnil : unlisted ops listed = [] := List.length_eq_zero_iff.1 hlen
    refine ⟨?_, ?_⟩
    · unfold Region.ready
      rw [List.filter_eq_nil_iff]
      intro i hi
      have : i ∉ unlisted ops listed := by rw [hnil]; simp
      unfold unlisted at this
      rw [List.mem_filter] at this
      simp only [not_and] at this
      have := this hi
      simp at this
      simp [this]
    · obtain ⟨u0, _⟩ := hsz 0
      obtain ⟨S', bs, h1, h2, h3⟩ := hex fun _ => u0
      rw [hnil] at h1
      simp only [execs, Option.some.injEq, Prod.mk.injEq] at h1
      rw [← h1.1] at h3
      exact hQ S s w h3 g
  | succ fuel ih =>
    intro listed S s w hsize hlen hB hex g
    refine ⟨?_, ?_⟩
    · intro hready
      exfalso
      -- the least one that is not listed is ready
      cases hu : unlisted ops listed with
      | nil => rw [hu] at hlen; simp at hlen
      | cons i0 rest =>
        have hi0 : i0 ∈ unlisted ops listed := by rw [hu]; simp
        have hi0' := hi0
        unfold unlisted at hi0'
        rw [List.mem_filter] at hi0'
        have hlt : i0 < ops.size := by simpa using hi0'.1
        have hnl : listed.getD i0 true = false := by simpa using hi0'.2
        obtain ⟨o, ho⟩ : ∃ o, ops[i0]? = some o := ⟨ops[i0], by simp [hlt]⟩
        obtain ⟨a, ha, _, hedge, _⟩ := facts i0 o ho
        have hmin : ∀ e, e < i0 → listed.getD e true = true := by
          intro e he
          by_cases h : listed.getD e true = true
          · exact h
          · exfalso
            have he' : e ∈ unlisted ops listed := by
              unfold unlisted
              rw [List.mem_filter]
              exact ⟨by simp; omega, by simp [h]⟩
            have hsorted : (unlisted ops listed).Pairwise (· < ·) := List.Pairwise.filter _ (List.pairwise_lt_range)
            rw [hu] at hsorted he'
            rcases List.mem_cons.1 he' with rfl | he'
            · omega
            · have := (List.pairwise_cons.1 hsorted).1 e he'
              omega
        have : i0 ∈ Region.ready .any ops listed := by
          unfold Region.ready
          rw [List.mem_filter]
          refine ⟨by simpa using hlt, ?_⟩
          simp only [hnl, Bool.not_false, Bool.true_and, ho, Option.map_some, Option.getD_some]
          rw [Array.all_eq_true_iff_forall_mem]
          intro e he
          by_cases hb : Region.binds .any e = true
          · have hmem : e.on ∈ edgesOf o := by
              unfold edgesOf
              rw [List.mem_filterMap]
              exact ⟨e, by simpa using he, by simp [hb]⟩
            have h1 := hmin e.on (hedge _ hmem)
            have hlt' : e.on < listed.size := by rw [hsize]; have := hedge _ hmem; omega
            have : listed.getD e.on false = listed.getD e.on true := by simp [Array.getD, hlt']
            simp [hb, this, h1]
          · simp [hb]
        rw [hready] at this
        simp at this
    · intro i hi
      unfold Region.ready at hi
      rw [List.mem_filter] at hi
      obtain ⟨hir, hi2⟩ := hi
      have hlt : i < ops.size := by simpa using hir
      simp only [Bool.and_eq_true, Bool.not_eq_true'] at hi2
      obtain ⟨hnl, hall⟩ := hi2
      obtain ⟨o, ho⟩ : ∃ o, ops[i]? = some o := ⟨ops[i], by simp [hlt]⟩
      simp only [ho, Option.map_some, Option.getD_some] at hall
      obtain ⟨a, ha, hind, hedge, hbef⟩ := facts i o ho
      have hedges : ∀ e ∈ edgesOf o, listed.getD e true = true := by
        intro e he
        unfold edgesOf at he
        rw [List.mem_filterMap] at he
        obtain ⟨ed, hed, hh⟩ := he
        split at hh
        · rename_i hb
          simp only [Option.some.injEq] at hh
          subst hh
          have := (Array.all_eq_true_iff_forall_mem.1 hall) ed (by simpa using hed)
          simp only [hb, Bool.not_true, Bool.false_or] at this
          have hlt' : ed.on < listed.size := by
            by_cases h : ed.on < listed.size
            · exact h
            · simp [Array.getD, h] at this
          simp [Array.getD, hlt'] at this ⊢
          exact this
        · simp at hh
      have hbefl : ∀ k ∈ (lget (befs ops.toList []) i).getD [], listed.getD k true = true := by
        intro k hk
        obtain ⟨e, he, hke⟩ := hbef k hk
        rcases hke with rfl | hke
        · exact hedges _ he
        · exact hB e (hedges e he) (by have := hedge e he; omega) k hke
      have himem : i ∈ unlisted ops listed := by
        unfold unlisted
        rw [List.mem_filter]
        exact ⟨by simpa using hlt, by simp [hnl]⟩
      obtain ⟨pre, post, hpp⟩ := List.append_of_mem himem
      have hsorted : (unlisted ops listed).Pairwise (· < ·) := List.Pairwise.filter _ (List.pairwise_lt_range)
      have hpre : ∀ k ∈ pre, k < i ∧ listed.getD k true = false := by
        intro k hk
        have hk' : k ∈ unlisted ops listed := by rw [hpp]; simp [hk]
        refine ⟨?_, ?_⟩
        · rw [hpp] at hsorted
          exact (List.pairwise_append.1 hsorted).2.2 k hk i (by simp)
        · unfold unlisted at hk'
          rw [List.mem_filter] at hk'
          simpa using hk'.2
      have hai : lget ans i = some a := by rw [lget_eq]; exact ha
      have hoi : lget ops.toList i = some o := by rw [lget_eq, Array.getElem?_toList]; exact ho
      have hap : ∀ k ∈ pre, ∃ ok ak, lget ops.toList k = some ok ∧ lget ans k = some ak ∧ (∀ cs b, ok.op ≠ .select cs b) ∧ Apart ops ok o ak a := by
        intro k hk
        obtain ⟨hki, hkl⟩ := hpre k hk
        obtain ⟨x, hx⟩ : ∃ x, ops[k]? = some x := ⟨ops[k]'(by omega), by simp [show k < ops.size by omega]⟩
        obtain ⟨b, hb, hh⟩ := hind k x hki hx
        refine ⟨x, b, by rw [lget_eq, Array.getElem?_toList]; exact hx, by rw [lget_eq]; exact hb, fun cs b => hsel' k x cs b hx, ?_⟩
        rcases hh with hh | hh
        · have := hbefl k hh
          rw [hkl] at this
          simp at this
        · exact hh
      -- the list without i
      have hrem : unlisted ops (listed.setIfInBounds i true) = pre ++ post := by
        have e1 : unlisted ops (listed.setIfInBounds i true) = (unlisted ops listed).filter (fun j => j != i) := by
          unfold unlisted
          rw [List.filter_filter]
          apply List.filter_congr
          intro j hj
          have hj' : j < ops.size := by simpa using hj
          by_cases hji : j = i
          · subst hji
            simp [Array.getD, hsize, hj']
          · have : i ≠ j := fun e => hji e.symm
            simp [Array.getD, hsize, hj', hji, this]
        rw [e1, hpp, List.filter_append, List.filter_cons]
        have hnd : (pre ++ i :: post).Nodup := by
          rw [← hpp]
          exact hsorted.imp (fun h => Nat.ne_of_lt h)
        have hnd' := List.nodup_append.1 hnd
        have h1 : pre.filter (fun j => j != i) = pre := by
          rw [List.filter_eq_self]
          intro k hk
          have := hnd'.2.2 k hk i (by simp)
          simp [this]
        have h2 : post.filter (fun j => j != i) = post := by
          rw [List.filter_eq_self]
          intro k hk
          have := (List.nodup_cons.1 hnd'.2.1).1
          have hne : k ≠ i := fun e => this (e ▸ hk)
          simp [hne]
        rw [h1, h2]
        simp
      refine exec_wp (ans := ans) (K := wpAny P .any ops Q fuel (listed.setIfInBounds i true)) hsz ?_ g ?_
      · intro u
        obtain ⟨S', bs, h1, h2, h3⟩ := hex fun _ => u
        rw [hpp] at h1
        obtain ⟨S1, b, bs', g1, g2, g3⟩ := execs_first hoi hai (fun cs b => hsel' i o cs b ho) post (fun _ => u) pre S S' bs hap h1
        exact ⟨S1, b, g1, h2 b ((g3 b).1 (.inl rfl))⟩
      · intro u S1 b s' w' he g'
        refine ih _ S1 s' w' (by simp [hsize]) ?_ ?_ ?_ g'
        · rw [hrem]
          rw [hpp] at hlen
          simp only [List.length_append, List.length_cons] at hlen ⊢
          omega
        · intro j hj hjs k hk
          have hset : ∀ k, listed.getD k true = true → (listed.setIfInBounds i true).getD k true = true := by
            intro k hk
            by_cases hki : k < ops.size
            · simp [Array.getD, hsize, hki, Array.getElem_setIfInBounds] at hk ⊢
              exact .inr hk
            · simp [Array.getD, hsize, hki]
          by_cases hji : j = i
          · subst hji
            exact hset k (hbefl k hk)
          · refine hset k (hB j ?_ hjs k hk)
            have : i ≠ j := fun e => hji e.symm
            simp [Array.getD, hsize, hjs, this] at hj ⊢
            exact hj
        · intro ν'
          obtain ⟨S', bs, h1, h2, h3⟩ := hex fun j => if j = i then u else ν' j
          rw [hpp] at h1
          obtain ⟨S1', b', bs', g1, g2, g3⟩ := execs_first hoi hai (fun cs b => hsel' i o cs b ho) post _ pre S S' bs hap h1
          simp only [if_true] at g1
          rw [he] at g1
          simp only [Option.some.injEq, Prod.mk.injEq] at g1
          obtain ⟨rfl, rfl⟩ := g1
          rw [hrem]
          refine ⟨S', bs', ?_, fun x hx => h2 x ((g3 x).1 (.inr hx)), h3⟩
          rw [← g2]
          apply execs_congr
          intro j hj
          have hnd : (pre ++ i :: post).Nodup := by
            rw [← hpp]
            exact hsorted.imp (fun h => Nat.ne_of_lt h)
          have hne : j ≠ i := by
            intro e
            subst e
            have hnd' := List.nodup_append.1 hnd
            rcases List.mem_append.1 hj with hj | hj
            · exact hnd'.2.2 j hj j (by simp) rfl
            · exact (List.nodup_cons.1 hnd'.2.1).1 hj
          simp [hne]

end

end Go.Sx
