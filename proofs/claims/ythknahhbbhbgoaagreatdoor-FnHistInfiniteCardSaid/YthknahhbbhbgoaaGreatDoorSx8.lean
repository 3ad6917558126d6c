/- The reckoner of this claim's walks, its eighth part: a region that draws its order, whatever its operations do: each order leaves what the order of the text leaves, but for the numbers of new blocks. -/
import Derived.Test.YthknahhbbhbgoaaGreatDoorSx7
namespace Go.Sx
open Go

/-- A region's state: the temporaries, and places for blocks. -/
structure RS where
  T : List Value
  H : List (Option (Nat × Obj))

def live (H : List (Option (Nat × Obj))) : List (Nat × Obj) := H.filterMap id

def takeS (H : List (Option (Nat × Obj))) : List Nat → Option (List (Nat × Obj) × List (Option (Nat × Obj)))
  | [] => some ([], H)
  | p :: ps =>
    match lget H p with
    | some (some x) =>
      match takeS (lset H p none) ps with
      | some (xs, H') => some (x :: xs, H')
      | none => none
    | _ => none

def putS (H : List (Option (Nat × Obj))) : List Nat → List (Nat × Obj) → Option (List (Option (Nat × Obj)))
  | [], [] => some H
  | p :: ps, x :: xs =>
    match lget H p with
    | some none => putS (lset H p (some x)) ps xs
    | _ => none
  | _, _ => none

/-- How an operation of a region is answered. -/
inductive RA (U : Type) where
  | rdo (rd : List Nat) (orc : List An)
  | mem (wr new : List Nat) (orc : List An)
  | call (rd wr new : List Nat) (f : FuncId) (res : U → Value × List (Nat × Obj) × List (Nat × Obj))
  | hand (rd wr new : List Nat) (res : U → Value × List (Nat × Obj) × List (Nat × Obj))
  | inlr (rd : List Nat) (n : Nat) (orc : List An)
  | inlw (wr new : List Nat) (n : Nat) (orc : List An)

def RA.rd {U : Type} : RA U → List Nat
  | .rdo rd _ => rd
  | .mem _ _ _ => []
  | .call rd _ _ _ _ => rd
  | .hand rd _ _ _ => rd
  | .inlr rd _ _ => rd
  | .inlw _ _ _ _ => []
def RA.wr {U : Type} : RA U → List Nat
  | .rdo _ _ => []
  | .mem wr _ _ => wr
  | .call _ wr _ _ _ => wr
  | .hand _ wr _ _ => wr
  | .inlr _ _ _ => []
  | .inlw wr _ _ _ => wr
def RA.new {U : Type} : RA U → List Nat
  | .rdo _ _ => []
  | .mem _ new _ => new
  | .call _ _ new _ _ => new
  | .hand _ _ new _ => new
  | .inlr _ _ _ => []
  | .inlw _ new _ _ => new

/-- What a call owes. -/
structure CO (U : Type) where
  f : FuncId
  args : List Value
  rdc : List (Nat × Obj)
  wrc : List (Nat × Obj)
  res : U → Value × List (Nat × Obj) × List (Nat × Obj)

def CO.holds {U : Type} (P : Program) (w0 : World) (F0 : List (Nat × Obj)) (sz : U → Nat) (c : CO U) : Prop :=
  ∀ (s : Nat) (X : List (Nat × Obj)) (w : World), Good w0 s (c.rdc ++ (c.wrc ++ (X ++ F0))) w →
    Calls P c.f ⟨c.args⟩ w fun e w' => ∃ u s', sz u = s ∧ e = .returned (c.res u).1 ∧ Good w0 s' (c.rdc ++ ((c.res u).2.1 ++ ((c.res u).2.2 ++ (X ++ F0)))) w'

/-- What an operation by hand owes. -/
structure HO (U : Type) where
  m : Sem Next
  rdc : List (Nat × Obj)
  wrc : List (Nat × Obj)
  res : U → Value × List (Nat × Obj) × List (Nat × Obj)

def HO.holds {U : Type} (P : Program) (w0 : World) (sz : U → Nat) (c : HO U) : Prop :=
  ∀ (s : Nat) (F : List (Nat × Obj)) (w : World), Good w0 s (c.rdc ++ (c.wrc ++ F)) w →
    ∃ u s' w', sz u = s ∧ c.m.run P w = .ok (.value (c.res u).1) w' ∧ Good w0 s' (c.rdc ++ ((c.res u).2.1 ++ ((c.res u).2.2 ++ F))) w'

/-- What an operation owes. -/
structure OB (U : Type) where
  lhs : List Nat
  rhs : List Nat
  ob : List Ob
  co : List (CO U)
  ho : List (HO U)

def OB.holds {U : Type} (P : Program) (w0 : World) (F0 : List (Nat × Obj)) (sz : U → Nat) (b : OB U) : Prop := b.lhs = b.rhs ∧ Obs w0 b.ob ∧ (∀ c ∈ b.co, c.holds P w0 F0 sz) ∧ ∀ c ∈ b.ho, c.holds P w0 sz

def splitL {α : Type} : List α → Nat → Option (List α × List α)
  | l, 0 => some ([], l)
  | [], _ + 1 => none
  | a :: l, n + 1 =>
    match splitL l n with
    | some (x, y) => some (a :: x, y)
    | none => none

structure CR (U : Type) where
  v : Value
  wr : List (Nat × Obj)
  new : List (Nat × Obj)
  b : OB U

/-- What an operation does with what it reads and writes. -/
def core {U : Type} (P : Program) (sz : U → Nat) (ops : Array Oper) (ds : List Deferred) (o : Oper) (a : RA U) (T : List Value) (rdc wrc : List (Nat × Obj)) (u : U) : Option (CR U) :=
  match Region.wanted o (yielded ops ⟨T⟩), a with
  | false, .rdo _ _ => some ⟨undef, [], [], ⟨[], [], [], [], []⟩⟩
  | false, _ => none
  | true, .rdo _ orc =>
    match sx P (execOp (Act.eval ⟨⟨T⟩, ds⟩) o) ⟨sz u, rdc, orc, none, true, [], [], []⟩ with
    | some (.ok (.value v), st) => fixed st.ok o.dst v fun st v => forceV v fun v => some ⟨v, [], [], ⟨st.lhs, st.rhs, st.ob, [], []⟩⟩
    | some (.ok .skip, st) => some ⟨undef, [], [], ⟨st.lhs, st.rhs, st.ob, [], []⟩⟩
    | _ => none
  | true, .mem _ _ orc =>
    match sx P (execOp (Act.eval ⟨⟨T⟩, ds⟩) o) ⟨sz u, wrc, orc, none, false, [], [], []⟩ with
    | some (.ok (.value v), st) => fixed st.ok o.dst v fun st v => forceV v fun v =>
      match splitL st.L wrc.length with
      | some (x, y) => some ⟨v, x, y, ⟨st.lhs, st.rhs, st.ob, [], []⟩⟩
      | none => none
    | some (.ok .skip, st) =>
      match splitL st.L wrc.length with
      | some (x, y) => some ⟨undef, x, y, ⟨st.lhs, st.rhs, st.ob, [], []⟩⟩
      | none => none
    | _ => none
  | true, .call _ _ _ f res =>
    match sx P (execOp (Act.eval ⟨⟨T⟩, ds⟩) o) ⟨sz u, [], [], none, true, [], [], []⟩ with
    | some (.ok (.enter f' args), st) =>
      match Nat.beq f f' with
      | true => forceVs args.toList fun args => some ⟨(res u).1, (res u).2.1, (res u).2.2, ⟨st.lhs, st.rhs, st.ob, [⟨f, args, rdc, wrc, res⟩], []⟩⟩
      | false => none
    | _ => none
  | true, .hand _ _ _ res => some ⟨(res u).1, (res u).2.1, (res u).2.2, ⟨[], [], [], [], [⟨execOp (Act.eval ⟨⟨T⟩, ds⟩) o, rdc, wrc, res⟩]⟩⟩
  | true, .inlr _ n orc =>
    match sx P (execOp (Act.eval ⟨⟨T⟩, ds⟩) o) ⟨sz u, [], [], none, true, [], [], []⟩ with
    | some (.ok (.enter f args), st) =>
      ent P f args .normal fun fr =>
      match leave P f (srun P [] n ⟨fr, [], ⟨sz u, rdc, orc, none, true, st.lhs, st.rhs, st.ob⟩, false⟩) with
      | some (v, st) => forceV v fun v => some ⟨v, [], [], ⟨st.lhs, st.rhs, st.ob, [], []⟩⟩
      | none => none
    | _ => none
  | true, .inlw _ _ n orc =>
    match sx P (execOp (Act.eval ⟨⟨T⟩, ds⟩) o) ⟨sz u, [], [], none, true, [], [], []⟩ with
    | some (.ok (.enter f args), st) =>
      ent P f args .normal fun fr =>
      match leave P f (srun P [] n ⟨fr, [], ⟨sz u, wrc, orc, none, false, st.lhs, st.rhs, st.ob⟩, false⟩) with
      | some (v, st) =>
        match splitL st.L wrc.length with
        | some (x, y) => forceV v fun v => some ⟨v, x, y, ⟨st.lhs, st.rhs, st.ob, [], []⟩⟩
        | none => none
      | none => none
    | _ => none

def exec {U : Type} (P : Program) (sz : U → Nat) (ops : Array Oper) (ds : List Deferred) (ans : List (RA U)) (S : RS) (i : Nat) (u : U) : Option (RS × OB U) :=
  match lget ops.toList i, lget ans i with
  | some o, some a =>
    match takeS S.H a.wr with
    | some (wrc, H1) =>
     match takeS H1 a.rd with
     | some (rdc, _) =>
      match core P sz ops ds o a S.T rdc wrc u with
      | some r =>
        match putS H1 a.wr r.wr with
        | some H2 =>
          match putS H2 a.new r.new with
          | some H3 => forceL (putL S.T o.dst r.v) fun T' => forceL H3 fun H3 => some (⟨T', H3⟩, r.b)
          | none => none
        | none => none
      | none => none
     | none => none
    | none => none
  | _, _ => none

def execs {U : Type} (P : Program) (sz : U → Nat) (ops : Array Oper) (ds : List Deferred) (ans : List (RA U)) : List Nat → (Nat → U) → RS → Option (RS × List (OB U))
  | [], _, S => some (S, [])
  | i :: is, ν, S =>
    match exec P sz ops ds ans S i (ν i) with
    | some (S', b) =>
      match execs P sz ops ds ans is ν S' with
      | some (S'', bs) => some (S'', b :: bs)
      | none => none
    | none => none

/-! the closed look at a region -/

/-- What comes before each operation. -/
def insN (x : Nat) (l : List Nat) : List Nat := match l.elem x with | true => l | false => x :: l
def unionN : List Nat → List Nat → List Nat
  | [], m => m
  | x :: l, m => unionN l (insN x m)
def edgesOf (o : Oper) : List Nat := o.after.toList.filterMap fun e => if Region.binds .any e then some e.on else none
def befOf (acc : List (List Nat)) : List Nat → List Nat
  | [] => []
  | e :: es => insN e (unionN ((lget acc e).getD []) (befOf acc es))
def befs : List Oper → List (List Nat) → List (List Nat)
  | [], acc => acc
  | o :: os, acc => forceL (befOf acc (edgesOf o)) fun l => befs os (acc ++ [l])

def disj : List Nat → List Nat → Bool
  | [], _ => true
  | x :: l, m => match m.elem x with | true => false | false => disj l m

/-- Two operations may change places. -/
def indep {U : Type} (ops : Array Oper) (x y : Oper) (a b : RA U) : Bool :=
  x.apart ops y && y.apart ops x &&
  disj (a.wr ++ a.new) (b.rd ++ (b.wr ++ b.new)) && disj (b.wr ++ b.new) (a.rd ++ (a.wr ++ a.new))

/-- Operation i against those before it. -/
def okWith {U : Type} (ops : Array Oper) (o : Oper) (a : RA U) (bef : List Nat) : Nat → List Oper → List (RA U) → Bool
  | _, [], _ => true
  | _, _ :: _, [] => false
  | k, x :: xs, b :: bs => (match bef.elem k with | true => true | false => indep ops x o b a) && okWith ops o a bef (k + 1) xs bs

def okFrom {U : Type} (ops : Array Oper) (bs : List (List Nat)) (os0 : List Oper) (as0 : List (RA U)) : Nat → List Oper → List (RA U) → Bool
  | _, [], [] => true
  | i, o :: os, a :: as => okWith ops o a ((lget bs i).getD []) 0 (os0.take i) (as0.take i) && (edgesOf o).all (fun e => Nat.blt e i) && okFrom ops bs os0 as0 (i + 1) os as
  | _, _, _ => false

def okRegion {U : Type} (ops : Array Oper) (ans : List (RA U)) : Bool :=
  Region.noSelect ops && okFrom ops (befs ops.toList []) ops.toList ans 0 ops.toList ans

end Go.Sx
