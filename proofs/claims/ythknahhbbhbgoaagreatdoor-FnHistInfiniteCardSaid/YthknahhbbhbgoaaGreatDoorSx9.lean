/- The reckoner of this claim's walks, its ninth part: operations of a region change places. -/
import Derived.Test.YthknahhbbhbgoaaGreatDoorSx8
namespace Go.Sx
open Go

theorem lget_lset_ne {α : Type} : ∀ (l : List α) (p q : Nat) (x : α), p ≠ q → lget (lset l p x) q = lget l q
  | [], _, _, _, _ => rfl
  | a :: l, 0, 0, x, h => absurd rfl h
  | a :: l, 0, q + 1, x, _ => rfl
  | a :: l, p + 1, 0, x, _ => rfl
  | a :: l, p + 1, q + 1, x, h => lget_lset_ne l p q x (by omega)

theorem lset_comm {α : Type} : ∀ (l : List α) (p q : Nat) (x y : α), p ≠ q → lset (lset l p x) q y = lset (lset l q y) p x
  | [], _, _, _, _, _ => rfl
  | a :: l, 0, 0, x, y, h => absurd rfl h
  | a :: l, 0, q + 1, x, y, _ => rfl
  | a :: l, p + 1, 0, x, y, _ => rfl
  | a :: l, p + 1, q + 1, x, y, h => by simp only [lset]; rw [lset_comm l p q x y (by omega)]

abbrev SH := List (Option (Nat × Obj))

def upd (H : SH) : List (Nat × Option (Nat × Obj)) → SH
  | [] => H
  | (p, x) :: L => upd (lset H p x) L

theorem upd_append (H : SH) : ∀ (L M : List (Nat × Option (Nat × Obj))), upd H (L ++ M) = upd (upd H L) M
  | [], _ => rfl
  | (p, x) :: L, M => by simp only [List.cons_append, upd]; exact upd_append _ L M

theorem upd_lset (H : SH) (q : Nat) (y : Option (Nat × Obj)) : ∀ (L : List (Nat × Option (Nat × Obj))), (∀ z ∈ L, z.1 ≠ q) → upd (lset H q y) L = lset (upd H L) q y
  | [], _ => rfl
  | (p, x) :: L, h => by
    simp only [upd]
    rw [lset_comm H q p y x (fun e => h (p, x) (by simp) e.symm)]
    exact upd_lset _ q y L (fun z hz => h z (by simp [hz]))

theorem upd_comm (H : SH) : ∀ (L M : List (Nat × Option (Nat × Obj))), (∀ z ∈ L, ∀ y ∈ M, z.1 ≠ y.1) → upd (upd H L) M = upd (upd H M) L
  | [], _, _ => rfl
  | (p, x) :: L, M, h => by
    simp only [upd]
    rw [upd_comm _ L M (fun z hz y hy => h z (by simp [hz]) y hy)]
    congr 1
    exact upd_lset H p x M (fun z hz e => h (p, x) (by simp) z hz e.symm)

theorem lget_upd (H : SH) (q : Nat) : ∀ (L : List (Nat × Option (Nat × Obj))), (∀ z ∈ L, z.1 ≠ q) → lget (upd H L) q = lget H q
  | [], _ => rfl
  | (p, x) :: L, h => by
    simp only [upd]
    rw [lget_upd _ q L (fun z hz => h z (by simp [hz])), lget_lset_ne _ _ _ _ (h (p, x) (by simp))]

theorem takeS_upd (L : List (Nat × Option (Nat × Obj))) : ∀ (ps : List Nat) (H : SH), (∀ z ∈ L, z.1 ∉ ps) → takeS (upd H L) ps = (takeS H ps).map fun r => (r.1, upd r.2 L)
  | [], H, _ => rfl
  | p :: ps, H, h => by
    simp only [takeS]
    rw [lget_upd H p L (fun z hz e => h z hz (by simp [e]))]
    rcases hg : lget H p with _ | _ | x
    · rfl
    · rfl
    · simp only []
      rw [← upd_lset H p none L (fun z hz e => h z hz (by simp [e])), takeS_upd L ps _ (fun z hz e => h z hz (by simp [e]))]
      cases takeS (lset H p none) ps with
      | none => rfl
      | some r => rfl

theorem putS_upd (L : List (Nat × Option (Nat × Obj))) : ∀ (ps : List Nat) (xs : List (Nat × Obj)) (H : SH), (∀ z ∈ L, z.1 ∉ ps) → putS (upd H L) ps xs = (putS H ps xs).map fun r => upd r L
  | [], [], H, _ => rfl
  | [], _ :: _, H, _ => rfl
  | _ :: _, [], H, _ => rfl
  | p :: ps, x :: xs, H, h => by
    simp only [putS]
    rw [lget_upd H p L (fun z hz e => h z hz (by simp [e]))]
    rcases hg : lget H p with _ | _ | y
    · rfl
    · simp only []
      rw [← upd_lset H p _ L (fun z hz e => h z hz (by simp [e])), putS_upd L ps xs _ (fun z hz e => h z hz (by simp [e]))]
    · rfl

theorem takeS_eq : ∀ (ps : List Nat) (H H' : SH) (xs : List (Nat × Obj)), takeS H ps = some (xs, H') → ∃ L, H' = upd H L ∧ ∀ z ∈ L, z.1 ∈ ps
  | [], H, H', xs, h => by simp [takeS] at h; exact ⟨[], by simp [upd, h.2], by simp⟩
  | p :: ps, H, H', xs, h => by
    simp only [takeS] at h
    split at h
    · split at h
      · rename_i r ys H2 ht
        simp only [Option.some.injEq, Prod.mk.injEq] at h
        obtain ⟨L, h1, h2⟩ := takeS_eq ps _ _ _ ht
        exact ⟨(p, none) :: L, by rw [← h.2, h1]; rfl, by
          intro z hz
          rcases List.mem_cons.1 hz with rfl | hz
          · simp
          · simp [h2 z hz]⟩
      · simp at h
    · simp at h

theorem putS_eq : ∀ (ps : List Nat) (xs : List (Nat × Obj)) (H H' : SH), putS H ps xs = some H' → ∃ L, H' = upd H L ∧ ∀ z ∈ L, z.1 ∈ ps
  | [], [], H, H', h => by simp [putS] at h; exact ⟨[], by simp [upd, h], by simp⟩
  | [], _ :: _, H, H', h => by simp [putS] at h
  | _ :: _, [], H, H', h => by simp [putS] at h
  | p :: ps, x :: xs, H, H', h => by
    simp only [putS] at h
    split at h
    · obtain ⟨L, h1, h2⟩ := putS_eq ps xs _ _ h
      exact ⟨(p, some x) :: L, by rw [h1]; rfl, by
        intro z hz
        rcases List.mem_cons.1 hz with rfl | hz
        · simp
        · simp [h2 z hz]⟩
    · simp at h

theorem live_split : ∀ {H : SH} {p : Nat} {x : Option (Nat × Obj)}, lget H p = some x → ∃ A B, H = A ++ x :: B ∧ ∀ y, lset H p y = A ++ y :: B := fun h => split_at h

theorem takeS_perm : ∀ (ps : List Nat) (H H' : SH) (xs : List (Nat × Obj)), takeS H ps = some (xs, H') → (live H).Perm (xs ++ live H')
  | [], H, H', xs, h => by simp [takeS] at h; obtain ⟨rfl, rfl⟩ := h; exact List.Perm.refl _
  | p :: ps, H, H', xs, h => by
    simp only [takeS] at h
    split at h
    · rename_i x hx
      split at h
      · rename_i r ys H2 ht
        simp only [Option.some.injEq, Prod.mk.injEq] at h
        obtain ⟨rfl, rfl⟩ := h
        have ih := takeS_perm ps _ _ _ ht
        obtain ⟨A, B, hA, hB⟩ := split_at hx
        rw [hB] at ih
        rw [hA]
        simp only [live, List.filterMap_append, List.filterMap_cons, id] at ih ⊢
        exact (List.perm_middle).trans (List.Perm.cons x ih)
      · simp at h
    · simp at h

theorem putS_perm : ∀ (ps : List Nat) (xs : List (Nat × Obj)) (H H' : SH), putS H ps xs = some H' → (live H').Perm (xs ++ live H)
  | [], [], H, H', h => by simp [putS] at h; subst h; exact List.Perm.refl _
  | [], _ :: _, H, H', h => by simp [putS] at h
  | _ :: _, [], H, H', h => by simp [putS] at h
  | p :: ps, x :: xs, H, H', h => by
    simp only [putS] at h
    split at h
    · rename_i hx
      have ih := putS_perm ps xs _ _ h
      obtain ⟨A, B, hA, hB⟩ := split_at hx
      rw [hB] at ih
      rw [hA]
      refine ih.trans ?_
      simp only [live, List.filterMap_append, List.filterMap_cons, id, List.cons_append]
      refine (List.Perm.append_left xs List.perm_middle).trans ?_
      exact List.perm_middle
    · simp at h

theorem putL_comm (l : List Value) (d e : Option Nat) (x y : Value) (h : ∀ n, d = some n → e ≠ some n) : putL (putL l d x) e y = putL (putL l e y) d x := by
  cases d with
  | none => rfl
  | some d =>
    cases e with
    | none => rfl
    | some e =>
      simp only [putL]
      exact lset_comm l d e x y (fun he => h d rfl (he ▸ rfl))

section
variable {U : Type} {P : Program} {sz : U → Nat} {ops : Array Oper} {ds : List Deferred} {ans : List (RA U)}

theorem core_put {o : Oper} (hs : ∀ cs b, o.op ≠ .select cs b) (a : RA U) (T : List Value) (rdc wrc : List (Nat × Obj)) (u : U) (d : Option Nat) (x : Value) (hd : ∀ n, d = some n → n ∉ o.looksAt ops) :
    core P sz ops ds o a (putL T d x) rdc wrc u = core P sz ops ds o a T rdc wrc u := by
  have e1 := wanted_put (ops := ops) o ⟨⟨T⟩, ds⟩ d x hd
  have e2 := execOp_put (ops := ops) o hs ⟨⟨T⟩, ds⟩ d x hd
  rw [put_eq] at e1 e2
  unfold core
  rw [e2]
  simp only [] at e1
  rw [e1]

/-- Apart: what one operation writes the other does not look at. -/
structure Apart (ops : Array Oper) (x y : Oper) (a b : RA U) : Prop where
  xy : ∀ d, x.dst = some d → d ∉ y.looksAt ops
  ne : ∀ d, x.dst = some d → y.dst ≠ some d
  yx : ∀ d, y.dst = some d → d ∉ x.looksAt ops
  ab : ∀ p ∈ a.wr ++ a.new, p ∉ b.rd ++ (b.wr ++ b.new)
  ba : ∀ p ∈ b.wr ++ b.new, p ∉ a.rd ++ (a.wr ++ a.new)

theorem exec_frame {o : Oper} {a : RA U} {i : Nat} (ho : lget ops.toList i = some o) (ha : lget ans i = some a) (hs : ∀ cs b, o.op ≠ .select cs b) (S : RS) (u : U) (d : Option Nat) (x : Value) (M : List (Nat × Option (Nat × Obj)))
    (hd : ∀ n, d = some n → n ∉ o.looksAt ops) (hne : ∀ n, d = some n → o.dst ≠ some n) (hM : ∀ z ∈ M, z.1 ∉ a.rd ++ (a.wr ++ a.new)) :
    exec P sz ops ds ans ⟨putL S.T d x, upd S.H M⟩ i u = (exec P sz ops ds ans S i u).map fun r => (⟨putL r.1.T d x, upd r.1.H M⟩, r.2) := by
  have h1 : ∀ z ∈ M, z.1 ∉ a.rd := fun z hz h => hM z hz (by simp [h])
  have h2 : ∀ z ∈ M, z.1 ∉ a.wr := fun z hz h => hM z hz (by simp [h])
  have h3 : ∀ z ∈ M, z.1 ∉ a.new := fun z hz h => hM z hz (by simp [h])
  unfold exec
  simp only [ho, ha]
  rw [takeS_upd M a.wr S.H h2]
  cases hw : takeS S.H a.wr with
  | none => rfl
  | some r1 =>
    obtain ⟨wrc, H1⟩ := r1
    simp only [Option.map_some]
    rw [takeS_upd M a.rd H1 h1]
    cases hr : takeS H1 a.rd with
    | none => rfl
    | some r2 =>
      obtain ⟨rdc, H1'⟩ := r2
      simp only [Option.map_some]
      rw [core_put hs a S.T rdc wrc u d x hd]
      cases hc : core P sz ops ds o a S.T rdc wrc u with
      | none => rfl
      | some r =>
        simp only []
        rw [putS_upd M a.wr r.wr H1 h2]
        cases hp : putS H1 a.wr r.wr with
        | none => rfl
        | some H2 =>
          simp only [Option.map_some]
          rw [putS_upd M a.new r.new H2 h3]
          cases hq : putS H2 a.new r.new with
          | none => rfl
          | some H3 =>
            simp only [Option.map_some, forceL_eq]
            rw [putL_comm S.T d o.dst x r.v hne]

theorem exec_shape {o : Oper} {a : RA U} {i : Nat} (ho : lget ops.toList i = some o) (ha : lget ans i = some a) {S S' : RS} {u : U} {b : OB U} (h : exec P sz ops ds ans S i u = some (S', b)) :
    ∃ v L, S' = ⟨putL S.T o.dst v, upd S.H L⟩ ∧ ∀ z ∈ L, z.1 ∈ a.wr ++ a.new := by
  unfold exec at h
  simp only [ho, ha] at h
  split at h
  · rename_i wrc H1 hw
    split at h
    · rename_i rdc H1' hr
      split at h
      · rename_i r hc
        split at h
        · rename_i H2 hp
          split at h
          · rename_i H3 hq
            simp only [forceL_eq, Option.some.injEq, Prod.mk.injEq] at h
            obtain ⟨L1, e1, k1⟩ := takeS_eq _ _ _ _ hw
            obtain ⟨L2, e2, k2⟩ := putS_eq _ _ _ _ hp
            obtain ⟨L3, e3, k3⟩ := putS_eq _ _ _ _ hq
            refine ⟨r.v, L1 ++ (L2 ++ L3), ?_, ?_⟩
            · rw [← h.1, e3, e2, e1, upd_append, upd_append]
            · intro z hz
              simp only [List.mem_append] at hz
              rcases hz with hz | hz | hz
              · simp [k1 z hz]
              · simp [k2 z hz]
              · simp [k3 z hz]
          · simp at h
        · simp at h
      · simp at h
    · simp at h
  · simp at h

/-- Two operations that are apart change places. -/
theorem exec_swap {i k : Nat} {oi ok : Oper} {ai ak : RA U} (hoi : lget ops.toList i = some oi) (hai : lget ans i = some ai) (hok : lget ops.toList k = some ok) (hak : lget ans k = some ak)
    (hsi : ∀ cs b, oi.op ≠ .select cs b) (hsk : ∀ cs b, ok.op ≠ .select cs b) (hap : Apart ops ok oi ak ai) {S S1 S2 : RS} {t u : U} {b1 b2 : OB U}
    (h1 : exec P sz ops ds ans S k t = some (S1, b1)) (h2 : exec P sz ops ds ans S1 i u = some (S2, b2)) :
    ∃ S1', exec P sz ops ds ans S i u = some (S1', b2) ∧ exec P sz ops ds ans S1' k t = some (S2, b1) := by
  obtain ⟨vk, Lk, rfl, kk⟩ := exec_shape hok hak h1
  rw [exec_frame hoi hai hsi S u ok.dst vk Lk (fun n hn => hap.xy n hn) (fun n hn => hap.ne n hn) (fun z hz => hap.ab _ (kk z hz))] at h2
  cases he : exec P sz ops ds ans S i u with
  | none => rw [he] at h2; simp at h2
  | some r =>
    obtain ⟨Si, bi⟩ := r
    rw [he] at h2
    simp only [Option.map_some, Option.some.injEq, Prod.mk.injEq] at h2
    obtain ⟨h2, rfl⟩ := h2
    refine ⟨Si, rfl, ?_⟩
    obtain ⟨vi, Li, rfl, ki⟩ := exec_shape hoi hai he
    rw [exec_frame hok hak hsk S t oi.dst vi Li (fun n hn => hap.yx n hn) (fun n hn e => hap.ne n e hn) (fun z hz => hap.ba _ (ki z hz)), h1]
    simp only [Option.map_some, Option.some.injEq, Prod.mk.injEq, and_true]
    rw [← h2]
    simp only [RS.mk.injEq]
    refine ⟨putL_comm _ _ _ _ _ (fun n hn => hap.ne n hn), ?_⟩
    exact upd_comm _ _ _ (fun z hz y hy e => hap.ab _ (kk z hz) (by rw [e]; exact List.mem_append_right _ (ki y hy)))

theorem execs_nil (ν : Nat → U) (S : RS) : execs P sz ops ds ans [] ν S = some (S, []) := rfl

/-- An operation that is apart from all before it comes first. -/
theorem execs_first {i : Nat} {oi : Oper} {ai : RA U} (hoi : lget ops.toList i = some oi) (hai : lget ans i = some ai) (hsi : ∀ cs b, oi.op ≠ .select cs b) (post : List Nat) (ν : Nat → U) :
    ∀ (pre : List Nat) (S S' : RS) (bs : List (OB U)),
    (∀ k ∈ pre, ∃ ok ak, lget ops.toList k = some ok ∧ lget ans k = some ak ∧ (∀ cs b, ok.op ≠ .select cs b) ∧ Apart ops ok oi ak ai) →
    execs P sz ops ds ans (pre ++ i :: post) ν S = some (S', bs) →
    ∃ S1 b bs', exec P sz ops ds ans S i (ν i) = some (S1, b) ∧ execs P sz ops ds ans (pre ++ post) ν S1 = some (S', bs') ∧ ∀ x, (x = b ∨ x ∈ bs') ↔ x ∈ bs
  | [], S, S', bs, _, h => by
    simp only [List.nil_append, execs] at h
    split at h
    · rename_i S1 b he
      split at h
      · rename_i S2 bs2 hes
        simp only [Option.some.injEq, Prod.mk.injEq] at h
        obtain ⟨rfl, rfl⟩ := h
        exact ⟨S1, b, bs2, he, hes, fun x => by simp⟩
      · simp at h
    · simp at h
  | k :: pre, S, S', bs, hap, h => by
    simp only [List.cons_append, execs] at h
    split at h
    · rename_i S1 b he
      split at h
      · rename_i S2 bs2 hes
        simp only [Option.some.injEq, Prod.mk.injEq] at h
        obtain ⟨rfl, rfl⟩ := h
        obtain ⟨S3, b3, bs3, g1, g2, g3⟩ := execs_first hoi hai hsi post ν pre S1 S2 bs2 (fun k hk => hap k (by simp [hk])) hes
        obtain ⟨ok, ak, hok, hak, hsk, hapk⟩ := hap k (by simp)
        obtain ⟨S4, q1, q2⟩ := exec_swap hoi hai hok hak hsi hsk hapk he g1
        refine ⟨S4, b3, b :: bs3, q1, ?_, ?_⟩
        · simp only [List.cons_append, execs, q2, g2]
        · intro x
          have := g3 x
          simp only [List.mem_cons]
          rw [← this]
          constructor
          · rintro (h | h | h)
            · exact .inr (.inl h)
            · exact .inl h
            · exact .inr (.inr h)
          · rintro (h | h | h)
            · exact .inr (.inl h)
            · exact .inl h
            · exact .inr (.inr h)
      · simp at h
    · simp at h

end

end Go.Sx
