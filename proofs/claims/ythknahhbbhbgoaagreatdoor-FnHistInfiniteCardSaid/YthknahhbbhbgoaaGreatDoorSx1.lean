/- The reckoner of this claim's walks, its first part: a list of known blocks in the place of the heap, and what an operation does over it. -/
import Derived.WalkKit
import Derived.Deep.Quiet
namespace Go.Sx
open Go

/-- The world w is the world w0 but for blocks made since, of which the list L tells some; the heap has s blocks. -/
structure Good (w0 : World) (s : Nat) (L : List (Nat × Obj)) (w : World) : Prop where
  size : w.heap.size = s
  base : w0.heap.size ≤ s
  old : ∀ b, b < w0.heap.size → w.heap[b]? = w0.heap[b]?
  nodup : (L.map (·.1)).Nodup
  own : ∀ p ∈ L, w0.heap.size ≤ p.1 ∧ w.heap[p.1]? = some p.2
  os : w.os = w0.os
  output : w.output = w0.output
  tape : w.tape = w0.tape

theorem Good.lt {w0 w : World} {s : Nat} {L : List (Nat × Obj)} (h : Good w0 s L w) {p : Nat × Obj} (hp : p ∈ L) : p.1 < s := by
  have := (h.own p hp).2
  rw [← h.size]
  exact (Array.getElem?_eq_some_iff.1 this).1

theorem Good.sub {w0 w : World} {s : Nat} {L L' : List (Nat × Obj)} (h : Good w0 s L w) (hs : ∀ p ∈ L', p ∈ L) (hn : (L'.map (·.1)).Nodup) : Good w0 s L' w :=
  { h with nodup := hn, own := fun p hp => h.own p (hs p hp) }

theorem Good.perm {w0 w : World} {s : Nat} {L L' : List (Nat × Obj)} (h : Good w0 s L w) (hp : L'.Perm L) : Good w0 s L' w :=
  h.sub (fun _ hq => hp.mem_iff.1 hq) ((hp.map (·.1)).nodup_iff.2 h.nodup)

theorem Good.sublist {w0 w : World} {s : Nat} {L L' : List (Nat × Obj)} (h : Good w0 s L w) (hp : L'.Sublist L) : Good w0 s L' w :=
  h.sub (fun _ hq => hp.subset hq) ((hp.map (·.1)).nodup h.nodup)

/-- A new block. -/
theorem Good.new {w0 w : World} {s : Nat} {L : List (Nat × Obj)} (h : Good w0 s L w) (o : Obj) : Good w0 (s + 1) ((s, o) :: L) { w with heap := w.heap.push o } where
  size := by simp [h.size]
  base := Nat.le_succ_of_le h.base
  old := fun b hb => by
    have : b < w.heap.size := by rw [h.size]; exact Nat.lt_of_lt_of_le hb h.base
    rw [← h.old b hb]
    simp [Array.getElem?_push, Nat.ne_of_lt this]
  nodup := by
    simp only [List.map_cons, List.nodup_cons]
    refine ⟨?_, h.nodup⟩
    intro hm
    obtain ⟨p, hp, e⟩ := List.mem_map.1 hm
    exact absurd (h.lt hp) (by rw [e]; exact Nat.lt_irrefl _)
  own := fun p hp => by
    rcases List.mem_cons.1 hp with rfl | hp
    · exact ⟨h.base, by simp [← h.size]⟩
    · have hl := h.lt hp
      refine ⟨(h.own p hp).1, ?_⟩
      have : p.1 ≠ w.heap.size := by rw [h.size]; exact Nat.ne_of_lt hl
      simpa [Array.getElem?_push, this] using (h.own p hp).2
  os := h.os
  output := h.output
  tape := h.tape

/-- A block of the list turned. -/
theorem Good.turn {w0 w : World} {s : Nat} {A B : List (Nat × Obj)} {b : Nat} {o : Obj} (h : Good w0 s (A ++ (b, o) :: B) w) (o' : Obj) :
    Good w0 s (A ++ (b, o') :: B) { w with heap := w.heap.setIfInBounds b o' } where
  size := by simp [h.size]
  base := h.base
  old := fun c hc => by
    have hb := (h.own (b, o) (by simp)).1
    have : b ≠ c := by simp at hb; omega
    rw [← h.old c hc]
    simp [this]
  nodup := by simpa using h.nodup
  own := fun p hp => by
    have hn := h.nodup
    simp only [List.map_append, List.map_cons] at hn
    have hn1 := (List.nodup_append.1 hn)
    have hb := h.own (b, o) (by simp)
    have hbl : b < w.heap.size := (Array.getElem?_eq_some_iff.1 hb.2).1
    rcases List.mem_append.1 hp with hp | hp
    · have hq := h.own p (by simp [hp])
      have : b ≠ p.1 := fun e => hn1.2.2 p.1 (List.mem_map_of_mem hp) b (by simp) e.symm
      exact ⟨hq.1, by simpa [Array.getElem?_setIfInBounds, this] using hq.2⟩
    · rcases List.mem_cons.1 hp with rfl | hp
      · exact ⟨hb.1, by simp [hbl]⟩
      · have hq := h.own p (by simp [hp])
        have : b ≠ p.1 := fun e => (List.nodup_cons.1 hn1.2.1).1 (e ▸ List.mem_map_of_mem hp)
        exact ⟨hq.1, by simpa [Array.getElem?_setIfInBounds, this] using hq.2⟩
  os := h.os
  output := h.output
  tape := h.tape

theorem Good.drew {w0 w : World} {s : Nat} {L : List (Nat × Obj)} (h : Good w0 s L w) (n : Nat) : Good w0 s L { w with drawn := n } :=
  ⟨h.size, h.base, h.old, h.nodup, h.own, h.os, h.output, h.tape⟩

theorem Good.at {w0 w : World} {s : Nat} {L : List (Nat × Obj)} (h : Good w0 s L w) {b : Nat} {o : Obj} (hm : (b, o) ∈ L) : w.heap[b]? = some o := (h.own _ hm).2

/-! lists, strictly -/

def lget {α : Type} : List α → Nat → Option α
  | [], _ => none
  | a :: _, 0 => some a
  | _ :: l, i + 1 => lget l i

def lset {α : Type} : List α → Nat → α → List α
  | [], _, _ => []
  | _ :: l, 0, x => x :: l
  | a :: l, i + 1, x => a :: lset l i x

theorem lget_eq {α : Type} : ∀ (l : List α) (i : Nat), lget l i = l[i]?
  | [], _ => by simp [lget]
  | _ :: _, 0 => by simp [lget]
  | _ :: l, i + 1 => by simp [lget, lget_eq l i]

theorem lset_eq {α : Type} : ∀ (l : List α) (i : Nat) (x : α), lset l i x = l.set i x
  | [], _, _ => by simp [lset]
  | _ :: _, 0, _ => by simp [lset]
  | _ :: l, i + 1, x => by simp [lset, lset_eq l i]

def forceL {α β : Type} : List α → (List α → β) → β
  | [], k => k []
  | a :: l, k => forceL l fun l' => k (a :: l')

theorem forceL_eq {α β : Type} : ∀ (l : List α) (k : List α → β), forceL l k = k l
  | [], _ => rfl
  | a :: l, k => by simp [forceL, forceL_eq l]

def forceV {β : Type} (v : Value) (k : Value → β) : β :=
  match v with
  | .bool b => k (.bool b)
  | .int a n => k (.int a n)
  | .float a n => k (.float a n)
  | .complex a x y => k (.complex a x y)
  | .string s => k (.string s)
  | .pointer a => k (.pointer a)
  | .slice a n c => k (.slice a n c)
  | .map r => k (.map r)
  | .chan r => k (.chan r)
  | .func f a c => k (.func f a c)
  | .nilFunc => k .nilFunc
  | .iface t v => k (.iface t v)
  | .nilIface => k .nilIface
  | .agg c => k (.agg c)
  | .tuple c => k (.tuple c)

theorem forceV_eq {β : Type} (v : Value) (k : Value → β) : forceV v k = k v := by cases v <;> rfl

/-! answers, obligations, the state -/

inductive An where
  | at (i : Nat)
  | ldv (i : Nat) (v : Value)
  | stc (i : Nat) (c : Array Value)
  | stf (i : Nat) (f : Value → Array Value)
  | old (v : Value)
  | oldsh (r : Option (TypeId × Nat))
  | oldfz (b : Bool)
  | br (b : Bool)
  | brc (b : Bool)
  | go
  | quiet
  | fix (t : Nat) (v : Value)

inductive Ob where
  | cell (a : Addr) (v : Value)
  | shape (b : Nat) (r : Option (TypeId × Nat))
  | frozen (a : Addr) (b : Bool)
  | test (b c : Bool)
  | val (u v : Value)
  | get (c : Array Value) (i : Nat) (v : Value)
  | put (c : Array Value) (i : Nat) (v : Value) (c' : Array Value)

def Ob.holds (w0 : World) : Ob → Prop
  | .cell a v => w0.cell? a = some v
  | .shape b r => b < w0.heap.size ∧ w0.shape? b = r
  | .frozen a b => a.block < w0.heap.size ∧ w0.frozen? a = b
  | .test b c => b = c
  | .val u v => u = v
  | .get c i v => c[i]? = some v
  | .put c i v c' => i < c.size ∧ c.setIfInBounds i v = c'

def Obs (w0 : World) : List Ob → Prop
  | [] => True
  | o :: l => o.holds w0 ∧ Obs w0 l

structure St where
  s : Nat
  L : List (Nat × Obj)
  orc : List An
  cur : Option Nat
  ro : Bool
  lhs : List Nat
  rhs : List Nat
  ob : List Ob

structure Valid (w0 : World) (st : St) : Prop where
  eq : st.lhs = st.rhs
  obs : Obs w0 st.ob

/-- The answer that serves now. -/
def St.pick (st : St) : Option An × St :=
  match st.cur with
  | some i => (some (.at i), st)
  | none =>
    match st.orc with
    | .at i :: r => (some (.at i), { st with orc := r, cur := some i })
    | a :: r => (some a, { st with orc := r })
    | [] => (none, st)

inductive SRes (α : Type) where
  | ok (a : α)
  | halt (h : Halt)

def SRes.in {α : Type} : SRes α → World → Result α
  | .ok a, w => .ok a w
  | .halt h, w => .halt h w

/-- One cell may be stored. -/
def Value.oneCell : Value → Bool
  | .agg _ => false
  | .tuple _ => false
  | _ => true

def sx (P : Program) {α : Type} : Sem α → St → Option (SRes α × St)
  | .pure a, st => some (.ok a, st)
  | .halt h, st => some (.halt h, st)
  | .program k, st => sx P (k P) st
  | .mark _ k, st => sx P k st
  | .load _ a k, st =>
    match st.pick with
    | (some (.at i), st) =>
      match lget st.L i with
      | some (b, .cells c _ _) =>
        match a.spot with
        | none =>
          match lget c.toList a.off with
          | some v => sx P (k v) { st with lhs := a.block :: st.lhs, rhs := b :: st.rhs }
          | none => none
        | some _ => none
      | _ => none
    | (some (.ldv i v), st) =>
      match lget st.L i with
      | some (b, .cells c _ _) =>
        match a.spot with
        | none => sx P (k v) { st with lhs := a.block :: st.lhs, rhs := b :: st.rhs, ob := .get c a.off v :: st.ob }
        | some _ => none
      | _ => none
    | (some (.old v), st) => sx P (k v) { st with ob := .cell a v :: st.ob }
    | _ => none
  | .store _ a v k, st =>
    match st.ro, Value.oneCell v with
    | false, true =>
      match st.pick with
      | (some (.at i), st) =>
        match lget st.L i with
        | some (b, .cells c t (lo, hi)) =>
          match a.spot with
          | none =>
            match lget c.toList a.off, decide (lo ≤ a.off) && decide (a.off < hi) with
            | some _, false =>
              forceV v fun v => forceL (lset c.toList a.off v) fun c' => forceL (lset st.L i (b, .cells ⟨c'⟩ t (lo, hi))) fun L' =>
                sx P k { st with L := L', lhs := a.block :: st.lhs, rhs := b :: st.rhs }
            | _, _ => none
          | some _ => none
        | _ => none
      | (some (.stc i c'), st) =>
        match lget st.L i with
        | some (b, .cells c t (lo, hi)) =>
          match a.spot with
          | none =>
            match decide (lo ≤ a.off) && decide (a.off < hi) with
            | false => forceL (lset st.L i (b, .cells c' t (lo, hi))) fun L' =>
                sx P k { st with L := L', lhs := a.block :: st.lhs, rhs := b :: st.rhs, ob := .put c a.off v c' :: st.ob }
            | true => none
          | some _ => none
        | _ => none
      | (some (.stf i f), st) =>
        match lget st.L i with
        | some (b, .cells c t (lo, hi)) =>
          match a.spot with
          | none =>
            match decide (lo ≤ a.off) && decide (a.off < hi) with
            | false => forceL (lset st.L i (b, .cells (f v) t (lo, hi))) fun L' =>
                sx P k { st with L := L', lhs := a.block :: st.lhs, rhs := b :: st.rhs, ob := .put c a.off v (f v) :: st.ob }
            | true => none
          | some _ => none
        | _ => none
      | _ => none
    | _, _ => none
  | .new o k, st =>
    match st.ro with
    | false => forceL (st.L ++ [(st.s, o)]) fun L' => sx P (k st.s) { st with s := st.s + 1, L := L' }
    | true => none
  | .shape r k, st =>
    match st.pick with
    | (some (.at i), st) =>
      match lget st.L i with
      | some (b, .cells c t _) => sx P (k (some (t, c.size))) { st with lhs := r :: st.lhs, rhs := b :: st.rhs }
      | some (b, .map _ _) => sx P (k none) { st with lhs := r :: st.lhs, rhs := b :: st.rhs }
      | _ => none
    | (some (.oldsh x), st) => sx P (k x) { st with ob := .shape r x :: st.ob }
    | _ => none
  | .frozen a k, st =>
    match st.pick with
    | (some (.at i), st) =>
      match lget st.L i with
      | some (b, .cells _ _ (lo, hi)) => sx P (k (decide (lo ≤ a.off) && decide (a.off < hi))) { st with lhs := a.block :: st.lhs, rhs := b :: st.rhs }
      | _ => none
    | (some (.oldfz x), st) => sx P (k x) { st with ob := .frozen a x :: st.ob }
    | _ => none
  | .getObj r k, st =>
    match st.pick with
    | (some (.at i), st) =>
      match lget st.L i with
      | some (_, .cells _ _ _) => none
      | some (b, o) => sx P (k o) { st with lhs := r :: st.lhs, rhs := b :: st.rhs }
      | none => none
    | _ => none
  | .setObj r o k, st =>
    match st.ro with
    | false =>
      match st.pick with
      | (some (.at i), st) =>
        match lget st.L i with
        | some (_, .cells _ _ _) => none
        | some (b, _) => forceL (lset st.L i (b, o)) fun L' => sx P k { st with L := L', lhs := r :: st.lhs, rhs := b :: st.rhs }
        | none => none
      | _ => none
    | true => none
  | .freeze a n k, st =>
    match n, st.ro with
    | 0, false => sx P k st
    | m + 1, false =>
      match st.pick with
      | (some (.at i), st) =>
        match lget st.L i with
        | some (b, .cells c t (lo, hi)) =>
          match lo == hi with
          | true => forceL (lset st.L i (b, .cells c t (a.off, a.off + (m + 1)))) fun L' => sx P k { st with L := L', lhs := a.block :: st.lhs, rhs := b :: st.rhs }
          | false => forceL (lset st.L i (b, .cells c t (min lo a.off, max hi (a.off + (m + 1))))) fun L' => sx P k { st with L := L', lhs := a.block :: st.lhs, rhs := b :: st.rhs }
        | _ => none
      | _ => none
    | _, _ => none
  | .choose q k, st =>
    match q.forced with
    | true => sx P (k 0) st
    | false => none
  | .sys _ _, _ => none

end Go.Sx
