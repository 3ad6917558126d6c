/- The reckoner of this claim's walks, its twelfth part: the rules for a region that draws its order and for one operation by hand. -/
import Derived.Test.YthknahhbbhbgoaaGreatDoorSx11
namespace Go.Sx
open Go

def slots (L : List (Nat × Obj)) : Nat → List (Option (Nat × Obj))
  | n => L.map some ++ List.replicate n none

theorem live_slots (L : List (Nat × Obj)) (n : Nat) : live (slots L n) = L := by
  unfold live slots
  rw [List.filterMap_append]
  have h1 : (List.map some L).filterMap id = L := by
    induction L with
    | nil => rfl
    | cons a l ih => simp
  have h2 : (List.replicate n (none : Option (Nat × Obj))).filterMap id = [] := by
    induction n with
    | zero => rfl
    | succ n ih => simp [List.replicate_succ]
  rw [h1, h2, List.append_nil]

def isDrawn : Code → Bool
  | .region _ _ true => true
  | _ => false

section
variable {P : Program} {w0 : World} {F : List (Nat × Obj)} {cs0 : List Frame} {Φ : Machine → Prop}

/-- A region that draws its order: the order of the text serves every order. -/
theorem Goes.region {U : Type} (sz : U → Nat) (hsz : ∀ n, ∃ u, sz u = n) (ans : List (RA U)) (nn : Nat) {fr : Frame} {cs : List Frame} {s : Nat} {L : List (Nat × Obj)} {c : Code} {k : List Item}
    (hm : fr.mode = .run) (hr : fr.roundOf = none) (ht : fr.todo = .code c :: k) (hc : isDrawn c = true) (hmix : P.follows .mixedOrders = true) (hok : okRegion (opsOf c) ans = true)
    (Sf : (Nat → U) → RS) (bs : (Nat → U) → List (OB U))
    (hex : ∀ ν, execs P sz (opsOf c) fr.defers ans (List.range (opsOf c).size) ν ⟨fr.tmps.toList, slots L nn⟩ = some (Sf ν, bs ν))
    (hb : ∀ ν, ∀ b ∈ bs ν, b.holds P w0 F sz)
    (h : ∀ ν s', Goes P w0 F cs0 Φ { fr with tmps := ⟨(Sf ν).T⟩, todo := k } cs s' (live (Sf ν).H)) : Goes P w0 F cs0 Φ fr cs s L := by
  intro w g
  unfold isDrawn at hc
  split at hc
  · rename_i id ops
    simp only [opsOf] at hok hex
    have hwp : (Code.region id ops true).wp P (fun e a w' => e = .normal ∧ ∃ ν s', a = ⟨⟨(Sf ν).T⟩, fr.defers⟩ ∧ Good w0 s' (live (Sf ν).H ++ F) w') ⟨fr.tmps, fr.defers⟩ w := by
      refine wp_region_any hmix ?_
      have := wpAny_loud (Q := fun e a w' => e = .normal ∧ ∃ ν s', a = ⟨⟨(Sf ν).T⟩, fr.defers⟩ ∧ Good w0 s' (live (Sf ν).H ++ F) w') (F := F) (w0 := w0) (P := P) (ds := fr.defers) (sz := sz) (ans := ans) (ops := ops)
        (K := fun S => ∃ ν, S = Sf ν) hsz hok (by
          rintro S' s' w' ⟨ν, rfl⟩ g'
          exact ⟨rfl, ν, s', rfl, g'⟩) ops.size (Array.replicate ops.size false) ⟨fr.tmps.toList, slots L nn⟩ s { w with drawn := w.drawn + 1 } (by simp) (by
          unfold unlisted
          rw [List.filter_eq_self.2]
          · simp
          · intro j hj
            have : j < ops.size := by simpa using hj
            simp [Array.getD, this]) (by
          intro j hj hjs
          simp [Array.getD, hjs] at hj) (by
          intro ν
          refine ⟨Sf ν, bs ν, ?_, hb ν, ν, rfl⟩
          have : unlisted ops (Array.replicate ops.size false) = List.range ops.size := by
            unfold unlisted
            rw [List.filter_eq_self.2]
            intro j hj
            have : j < ops.size := by simpa using hj
            simp [Array.getD, this]
          rw [this]
          exact hex ν) (by
          rw [live_slots]
          exact g.drew _)
      exact this
    obtain ⟨e, a', w', ⟨rfl, ν, s', rfl, g'⟩, harr⟩ := hwp fr k (cs ++ cs0)
    have e1 : fr.at ⟨fr.tmps, fr.defers⟩ (.code (.region id ops true) :: k) = fr := by
      cases fr
      simp only [Frame.at] at *
      simp [hm, hr, ht]
    have e2 : fr.at ⟨⟨(Sf ν).T⟩, fr.defers⟩ k = { fr with tmps := ⟨(Sf ν).T⟩, todo := k } := by
      cases fr
      simp only [Frame.at] at *
      simp [hm, hr]
    rw [e1] at harr
    simp only [Arrives] at harr
    rw [e2] at harr
    obtain ⟨m, hs, hΦ⟩ := h ν s' w' g'
    exact ⟨m, harr.trans hs, hΦ⟩
  · simp at hc

/-- Operations in a given order. -/
theorem wpOps_ordered {U : Type} {sz : U → Nat} {ops : Array Oper} {ds : List Deferred} {ans : List (RA U)} {Q : Exit → Act → World → Prop} {K : RS → Prop} (hsz : ∀ n, ∃ u, sz u = n)
    (hQ : ∀ S' s' w', K S' → Good w0 s' (live S'.H ++ F) w' → Q .normal ⟨⟨S'.T⟩, ds⟩ w') : ∀ (is : List Nat) (S : RS) (s : Nat) (w : World), is.Nodup →
    (∀ ν, ∃ S' bs, execs P sz ops ds ans is ν S = some (S', bs) ∧ (∀ b ∈ bs, b.holds P w0 F sz) ∧ K S') → Good w0 s (live S.H ++ F) w → wpOps P ops Q is ⟨⟨S.T⟩, ds⟩ w
  | [], S, s, w, _, hex, g => by
    obtain ⟨u0, _⟩ := hsz 0
    obtain ⟨S', bs, h1, h2, h3⟩ := hex fun _ => u0
    simp only [execs, Option.some.injEq, Prod.mk.injEq] at h1
    rw [← h1.1] at h3
    exact hQ S s w h3 g
  | i :: is, S, s, w, hnd, hex, g => by
    rw [wpOps_cons]
    refine exec_wp (ans := ans) hsz ?_ g ?_
    · intro u
      obtain ⟨S', bs, h1, h2, h3⟩ := hex fun _ => u
      simp only [execs] at h1
      split at h1
      · rename_i S1 b he
        split at h1
        · rename_i S2 bs2 hes
          simp only [Option.some.injEq, Prod.mk.injEq] at h1
          exact ⟨S1, b, he, h2 b (by rw [← h1.2]; simp)⟩
        · simp at h1
      · simp at h1
    · intro u S1 b s' w' he g'
      refine wpOps_ordered (ans := ans) hsz hQ is S1 s' w' (List.nodup_cons.1 hnd).2 ?_ g'
      intro ν'
      obtain ⟨S', bs, h1, h2, h3⟩ := hex fun j => if j = i then u else ν' j
      simp only [execs, if_true, he] at h1
      split at h1
      · rename_i S2 bs2 hes
        simp only [Option.some.injEq, Prod.mk.injEq] at h1
        refine ⟨S2, bs2, ?_, fun x hx => h2 x (by rw [← h1.2]; simp [hx]), by rw [h1.1]; exact h3⟩
        rw [← hes]
        apply execs_congr
        intro j hj
        have : j ≠ i := fun e => (List.nodup_cons.1 hnd).1 (e ▸ hj)
        simp [this]
      · simp at h1

def nodupN : List Nat → Bool
  | [] => true
  | x :: l => match l.elem x with | true => false | false => nodupN l

theorem nodupN_spec {l : List Nat} (h : nodupN l = true) : l.Nodup := by
  induction l with
  | nil => simp
  | cons x l ih =>
    simp only [nodupN] at h
    split at h
    · simp at h
    · rename_i hx
      exact List.nodup_cons.2 ⟨by simpa using hx, ih h⟩

/-- A region in the order of the text. -/
theorem Goes.ordered {U : Type} (sz : U → Nat) (hsz : ∀ n, ∃ u, sz u = n) (ans : List (RA U)) (nn : Nat) {fr : Frame} {cs : List Frame} {s : Nat} {L : List (Nat × Obj)} {ops : Array Oper} {is : List Nat} {k : List Item}
    (hm : fr.mode = .run) (hr : fr.roundOf = none) (ht : fr.todo = .inRegion ops is :: k) (hnd : nodupN is = true)
    (Sf : (Nat → U) → RS) (bs : (Nat → U) → List (OB U))
    (hex : ∀ ν, execs P sz ops fr.defers ans is ν ⟨fr.tmps.toList, slots L nn⟩ = some (Sf ν, bs ν))
    (hb : ∀ ν, ∀ b ∈ bs ν, b.holds P w0 F sz)
    (h : ∀ ν s', Goes P w0 F cs0 Φ { fr with tmps := ⟨(Sf ν).T⟩, todo := k } cs s' (live (Sf ν).H)) : Goes P w0 F cs0 Φ fr cs s L := by
  intro w g
  have hwp : wpOps P ops (fun e a w' => e = .normal ∧ ∃ ν s', a = ⟨⟨(Sf ν).T⟩, fr.defers⟩ ∧ Good w0 s' (live (Sf ν).H ++ F) w') is ⟨fr.tmps, fr.defers⟩ w :=
    wpOps_ordered (S := ⟨fr.tmps.toList, slots L nn⟩) (s := s) (F := F) (w0 := w0) (sz := sz) (ans := ans) (K := fun S => ∃ ν, S = Sf ν) hsz (by
      rintro S' s' w' ⟨ν, rfl⟩ g'
      exact ⟨rfl, ν, s', rfl, g'⟩) is (w := w) (nodupN_spec hnd) (fun ν => ⟨Sf ν, bs ν, hex ν, hb ν, ν, rfl⟩) (by rw [live_slots]; exact g)
  obtain ⟨e, a', w', ⟨rfl, ν, s', rfl, g'⟩, harr⟩ := wp_ops is _ _ hwp fr k (cs ++ cs0)
  have e1 : fr.at ⟨fr.tmps, fr.defers⟩ (.inRegion ops is :: k) = fr := by
    cases fr
    simp only [Frame.at] at *
    simp [hm, hr, ht]
  have e2 : fr.at ⟨⟨(Sf ν).T⟩, fr.defers⟩ k = { fr with tmps := ⟨(Sf ν).T⟩, todo := k } := by
    cases fr
    simp only [Frame.at] at *
    simp [hm, hr]
  rw [e1] at harr
  simp only [Arrives] at harr
  rw [e2] at harr
  obtain ⟨m, hs, hΦ⟩ := h ν s' w' g'
  exact ⟨m, harr.trans hs, hΦ⟩

/-- One operation by hand. -/
theorem Goes.op {ι : Type} {fr : Frame} {cs : List Frame} {s : Nat} {L : List (Nat × Obj)} {ops : Array Oper} {i : Nat} {rest : List Nat} {k : List Item} (o : Oper) (hm : fr.mode = .run) (hr : fr.roundOf = none)
    (ht : fr.todo = .inRegion ops (i :: rest) :: k) (ho : lget ops.toList i = some o) (hw : Region.wanted o (yielded ops fr.tmps) = true) (R : ι → Value × Nat × List (Nat × Obj))
    (h : ∀ w, Good w0 s (L ++ F) w → ∃ x w', (execOp fr.eval o).run P w = .ok (.value (R x).1) w' ∧ Good w0 (R x).2.1 ((R x).2.2 ++ F) w')
    (k' : ∀ x, Goes P w0 F cs0 Φ (fr.finish (R x).1) cs (R x).2.1 (R x).2.2) : Goes P w0 F cs0 Φ fr cs s L := by
  intro w g
  obtain ⟨x, w', h1, g'⟩ := h w g
  obtain ⟨m, hs, hΦ⟩ := k' x w' g'
  refine ⟨m, Steps.head (step_lone_go ?_) hs, hΦ⟩
  rw [lget_eq, Array.getElem?_toList] at ho
  rw [op_stepG hm hr ht ho hw, stepG.apply]
  simp [Sem.runT_eq, h1]

theorem Obs.split : ∀ (a b : List Ob), Obs w0 (a ++ b) → Obs w0 a ∧ Obs w0 b
  | [], _, h => ⟨trivial, h⟩
  | _ :: m, b, h => ⟨⟨h.1, (Obs.split m b h.2).1⟩, (Obs.split m b h.2).2⟩

/-- What is owed, in one piece. -/
theorem OB.all {U : Type} {sz : U → Nat} : ∀ {bs : List (OB U)}, bs.map (·.lhs) = bs.map (·.rhs) → Obs w0 (bs.flatMap (·.ob)) → (∀ c ∈ bs.flatMap (·.co), c.holds P w0 F sz) → (∀ c ∈ bs.flatMap (·.ho), c.holds P w0 sz) → ∀ b ∈ bs, b.holds P w0 F sz
  | [], _, _, _, _, b, hb => by simp at hb
  | x :: l, h1, h2, h3, h4, b, hb => by
    simp only [List.map_cons, List.cons.injEq] at h1
    simp only [List.flatMap_cons] at h2 h3 h4
    obtain ⟨k1, k2⟩ := Obs.split _ _ h2
    rcases List.mem_cons.1 hb with rfl | hb
    · exact ⟨h1.1, k1, fun c hc => h3 c (List.mem_append_left _ hc), fun c hc => h4 c (List.mem_append_left _ hc)⟩
    · exact OB.all h1.2 k2 (fun c hc => h3 c (List.mem_append_right _ hc)) (fun c hc => h4 c (List.mem_append_right _ hc)) b hb

/-! the same rules, with less to write out -/

structure Pack3 (U : Type) where
  S : RS
  ob : List Ob
  co : List (CO U)
  ho : List (HO U)

def pack3 {U : Type} : Option (RS × List (OB U)) → Option (Pack3 U)
  | some (S, bs) => some ⟨S, bs.flatMap (·.ob), bs.flatMap (·.co), bs.flatMap (·.ho)⟩
  | none => none
def lhs3 {U : Type} : Option (RS × List (OB U)) → List (List Nat)
  | some (_, bs) => bs.map (·.lhs)
  | none => []
def rhs3 {U : Type} : Option (RS × List (OB U)) → List (List Nat)
  | some (_, bs) => bs.map (·.rhs)
  | none => []

def AllCO {U : Type} (P : Program) (w0 : World) (F0 : List (Nat × Obj)) (sz : U → Nat) : List (CO U) → Prop
  | [] => True
  | c :: l => c.holds P w0 F0 sz ∧ AllCO P w0 F0 sz l
def AllHO {U : Type} (P : Program) (w0 : World) (sz : U → Nat) : List (HO U) → Prop
  | [] => True
  | c :: l => c.holds P w0 sz ∧ AllHO P w0 sz l

theorem AllCO.mem {U : Type} {sz : U → Nat} : ∀ {l : List (CO U)}, AllCO P w0 F sz l → ∀ c ∈ l, c.holds P w0 F sz
  | [], _, c, hc => by simp at hc
  | x :: l, h, c, hc => by
    rcases List.mem_cons.1 hc with rfl | hc
    · exact h.1
    · exact AllCO.mem h.2 c hc
theorem AllHO.mem {U : Type} {sz : U → Nat} : ∀ {l : List (HO U)}, AllHO P w0 sz l → ∀ c ∈ l, c.holds P w0 sz
  | [], _, c, hc => by simp at hc
  | x :: l, h, c, hc => by
    rcases List.mem_cons.1 hc with rfl | hc
    · exact h.1
    · exact AllHO.mem h.2 c hc

theorem pack3_spec {U : Type} {sz : U → Nat} {r : Option (RS × List (OB U))} {S : RS} {ob : List Ob} {co : List (CO U)} {ho : List (HO U)} (h : pack3 r = some ⟨S, ob, co, ho⟩) (he : lhs3 r = rhs3 r)
    (h1 : Obs w0 ob) (h2 : AllCO P w0 F sz co) (h3 : AllHO P w0 sz ho) : ∃ bs, r = some (S, bs) ∧ ∀ b ∈ bs, b.holds P w0 F sz := by
  cases r with
  | none => simp [pack3] at h
  | some x =>
    obtain ⟨S', bs⟩ := x
    simp only [pack3, Option.some.injEq, Pack3.mk.injEq] at h
    obtain ⟨rfl, rfl, rfl, rfl⟩ := h
    exact ⟨bs, rfl, OB.all he h1 (AllCO.mem h2) (AllHO.mem h3)⟩

/-- What is not known ahead: the heap's size when an operation begins, and whatever a contract leaves open. -/
structure PU where
  n : Nat
  x : Nat
  y : Nat
  v : Value
  l : List Value
  b : Nat → Nat

theorem PU.any (n : Nat) : ∃ u : PU, PU.n u = n := ⟨⟨n, 0, 0, undef, [], fun _ => 0⟩, rfl⟩

/-- A region that draws its order. -/
theorem Goes.drawn (ans : List (RA PU)) (nn : Nat) {fr : Frame} {cs : List Frame} {s : Nat} {L : List (Nat × Obj)} {c : Code} {k : List Item}
    (hm : fr.mode = .run) (hr : fr.roundOf = none) (ht : fr.todo = .code c :: k) (hc : isDrawn c = true) (hmix : P.follows .mixedOrders = true) (hok : okRegion (opsOf c) ans = true)
    (Sf : (Nat → PU) → RS) (ob : (Nat → PU) → List Ob) (co : (Nat → PU) → List (CO PU)) (ho : (Nat → PU) → List (HO PU))
    (hex : ∀ ν, pack3 (execs P PU.n (opsOf c) fr.defers ans (List.range (opsOf c).size) ν ⟨fr.tmps.toList, slots L nn⟩) = some ⟨Sf ν, ob ν, co ν, ho ν⟩)
    (he : ∀ ν, lhs3 (execs P PU.n (opsOf c) fr.defers ans (List.range (opsOf c).size) ν ⟨fr.tmps.toList, slots L nn⟩) = rhs3 (execs P PU.n (opsOf c) fr.defers ans (List.range (opsOf c).size) ν ⟨fr.tmps.toList, slots L nn⟩))
    (h1 : ∀ ν, Obs w0 (ob ν)) (h2 : ∀ ν, AllCO P w0 F PU.n (co ν)) (h3 : ∀ ν, AllHO P w0 PU.n (ho ν))
    (h : ∀ ν s', Goes P w0 F cs0 Φ { fr with tmps := ⟨(Sf ν).T⟩, todo := k } cs s' (live (Sf ν).H)) : Goes P w0 F cs0 Φ fr cs s L := by
  have key := fun ν => pack3_spec (P := P) (w0 := w0) (sz := PU.n) (hex ν) (he ν) (h1 ν) (h2 ν) (h3 ν)
  exact Goes.region PU.n PU.any ans nn hm hr ht hc hmix hok Sf (fun ν => Classical.choose (key ν)) (fun ν => (Classical.choose_spec (key ν)).1) (fun ν => (Classical.choose_spec (key ν)).2) h

/-- A region in the order of the text. -/
theorem Goes.inOrder (ans : List (RA PU)) (nn : Nat) {fr : Frame} {cs : List Frame} {s : Nat} {L : List (Nat × Obj)} {ops : Array Oper} {is : List Nat} {k : List Item}
    (hm : fr.mode = .run) (hr : fr.roundOf = none) (ht : fr.todo = .inRegion ops is :: k) (hnd : nodupN is = true)
    (Sf : (Nat → PU) → RS) (ob : (Nat → PU) → List Ob) (co : (Nat → PU) → List (CO PU)) (ho : (Nat → PU) → List (HO PU))
    (hex : ∀ ν, pack3 (execs P PU.n ops fr.defers ans is ν ⟨fr.tmps.toList, slots L nn⟩) = some ⟨Sf ν, ob ν, co ν, ho ν⟩)
    (he : ∀ ν, lhs3 (execs P PU.n ops fr.defers ans is ν ⟨fr.tmps.toList, slots L nn⟩) = rhs3 (execs P PU.n ops fr.defers ans is ν ⟨fr.tmps.toList, slots L nn⟩))
    (h1 : ∀ ν, Obs w0 (ob ν)) (h2 : ∀ ν, AllCO P w0 F PU.n (co ν)) (h3 : ∀ ν, AllHO P w0 PU.n (ho ν))
    (h : ∀ ν s', Goes P w0 F cs0 Φ { fr with tmps := ⟨(Sf ν).T⟩, todo := k } cs s' (live (Sf ν).H)) : Goes P w0 F cs0 Φ fr cs s L := by
  have key := fun ν => pack3_spec (P := P) (w0 := w0) (sz := PU.n) (hex ν) (he ν) (h1 ν) (h2 ν) (h3 ν)
  exact Goes.ordered PU.n PU.any ans nn hm hr ht hnd Sf (fun ν => Classical.choose (key ν)) (fun ν => (Classical.choose_spec (key ν)).1) (fun ν => (Classical.choose_spec (key ν)).2) h

end
end Go.Sx
