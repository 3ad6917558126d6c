/- The reckoner of this claim's walks, its third part: the machine's steps over the list. -/
import Derived.Test.YthknahhbbhbgoaaGreatDoorSx2
namespace Go.Sx
open Go

structure SS where
  fr : Frame
  cs : List Frame
  st : St
  off : Bool

def putL (l : List Value) : Option Nat → Value → List Value
  | none, _ => l
  | some d, v => lset l d v

def dstOf (ops : Array Oper) (i : Nat) : Option Nat :=
  match lget ops.toList i with
  | some o => o.dst
  | none => none

/-- Frame.finish, strictly, where an operation of a region waits. -/
def fin (fr : Frame) (v : Value) : Option Frame :=
  match fr.todo with
  | .inRegion ops (i :: rest) :: k =>
    forceV v fun v => forceL (putL fr.tmps.toList (dstOf ops i) v) fun l =>
      some ⟨fr.fn, ⟨l⟩, .inRegion ops rest :: k, fr.defers, fr.mode, fr.kind, fr.roundOf⟩
  | _ => none

def forceVs {β : Type} : List Value → (List Value → β) → β
  | [], k => k []
  | v :: l, k => forceV v fun v' => forceVs l fun l' => k (v' :: l')

/-- Frame.enter, strictly. -/
def ent {β : Type} (P : Program) (f : FuncId) (args : Array Value) (kind : CallKind) (k : Frame → β) : β :=
  match lget P.funcs.toList f with
  | some fn =>
    forceVs (args.toList ++ List.replicate (fn.ntmps - args.toList.length) undef) fun l =>
      k ⟨f, ⟨l⟩, [.code (fn.body.getD (.refuse "unsupported: a function without a Go body is entered"))], [], .run, kind, none⟩
  | none => k (Frame.enter P f args kind)

def St.ok (st : St) : St := { st with cur := none }

/-- A result, or what stands in its place. -/
def fixed {β : Type} (st : St) (d : Option Nat) (v : Value) (k : St → Value → β) : β :=
  match st.orc, d with
  | .fix t u :: r, some t' =>
    match Nat.beq t t' with
    | true => k { st with orc := r, ob := .val v u :: st.ob } u
    | false => k st v
  | _, _ => k st v

/-- The operations of a region that only reads, in the order of the text. -/
def quietOps (P : Program) (ops : Array Oper) : List Oper → List Value → List Deferred → St → Option (List Value × St)
  | [], l, _, st => some (l, st)
  | o :: rest, l, ds, st =>
    match Region.wanted o (yielded ops ⟨l⟩) with
    | false => forceL (putL l o.dst undef) fun l' => quietOps P ops rest l' ds st
    | true =>
      match sx P (execOp (Act.eval ⟨⟨l⟩, ds⟩) o) st with
      | some (.ok (.value v), st) => fixed st.ok o.dst v fun st v => forceV v fun v => forceL (putL l o.dst v) fun l' => quietOps P ops rest l' ds st
      | some (.ok .skip, st) => forceL (putL l o.dst undef) fun l' => quietOps P ops rest l' ds st.ok
      | _ => none

def todo (ss : SS) (k : List Item) : SS := { ss with fr := { ss.fr with todo := k } }

def sopAny (P : Program) (stops : List Nat) (ss : SS) (o : Oper) : Option SS :=
  match sx P (execOp ss.fr.eval o) ss.st with
  | some (.ok (.value v), st) => fixed st.ok o.dst v fun st v =>
    match fin ss.fr v with
    | some fr => some ⟨fr, ss.cs, st, false⟩
    | none => none
  | some (.ok .skip, st) =>
    match fin ss.fr undef with
    | some fr => some ⟨fr, ss.cs, st.ok, false⟩
    | none => none
  | some (.ok (.enter f args), st) =>
    match stops.elem f with
    | true => none
    | false => ent P f args .normal fun fr => some ⟨fr, ss.fr :: ss.cs, st.ok, false⟩
  | some (.ok (.defer d), st) =>
    match fin { ss.fr with defers := d :: ss.fr.defers } undef with
    | some fr => some ⟨fr, ss.cs, st.ok, false⟩
    | none => none
  | some (.ok .recover, st) =>
    match ss.fr.kind, ss.cs with
    | .normal, _ =>
      match fin ss.fr .nilIface with
      | some fr => some ⟨fr, ss.cs, st.ok, false⟩
      | none => none
    | .deferred, caller :: rest =>
      match caller.mode with
      | .panicking ({ v, recovered := false, goexit := false } :: older) =>
        match fin ss.fr v with
        | some fr => some ⟨fr, { caller with mode := .panicking ({ v, recovered := true } :: older) } :: rest, st.ok, false⟩
        | none => none
      | .returning =>
        match fin ss.fr .nilIface with
        | some fr => some ⟨fr, ss.cs, st.ok, false⟩
        | none => none
      | _ => none
    | _, _ => none
  | some (.halt (.panic v), st) => forceV v fun v => some ⟨ss.fr.raise [{ v, recovered := false }], ss.cs, st.ok, false⟩
  | _ => none

/-- What is left to hands: an append, and two pointers compared. -/
def byHand (ρ : Operand → Value) (o : Oper) : Bool :=
  match o.op with
  | .call c => match c.callee with
    | .builtin .append => true
    | _ => false
  | .binOp op _ x y _ =>
    match op with
    | .eql | .neq =>
      match ρ x, ρ y with
      | .pointer (some _), .pointer (some _) => true
      | _, _ => false
    | _ => false
  | _ => false

/-- One operation that is not left to hands. -/
def sop (P : Program) (stops : List Nat) (ss : SS) (o : Oper) : Option SS :=
  match byHand ss.fr.eval o with
  | true => none
  | false => sopAny P stops ss o

def sexec (P : Program) (stops : List Nat) (ss : SS) : Option SS :=
  match ss.fr.todo with
  | [] => some { ss with fr := { ss.fr with mode := .returning } }
  | .code .ret :: _ => some { ss with fr := { ss.fr with mode := .returning } }
  | .code .skip :: k | .code (.label _) :: k | .inBlock _ :: k | .inScope _ :: k => some (todo ss k)
  | .code (.seq a b) :: k => some (todo ss (.code a :: .code b :: k))
  | .code (.cond c a b) :: k =>
    match ss.fr.eval c with
    | .bool x =>
      match ss.st.orc with
      | .br t :: r => some { todo ss (.code (match t with | true => a | false => b) :: k) with st := { ss.st with orc := r, ob := .test x t :: ss.st.ob } }
      | .brc t :: r => some { todo ss (.code (match t with | true => a | false => b) :: k) with st := { ss.st with orc := r, lhs := x.toNat :: ss.st.lhs, rhs := t.toNat :: ss.st.rhs } }
      | _ => none
    | _ => none
  | .code (.block id body) :: k => some (todo ss (.code body :: .inBlock id :: k))
  | .code (.loop body) :: k | .inLoop body :: k =>
    match ss.st.orc with
    | .go :: r => some { todo ss (.code body :: .inLoop body :: k) with st := { ss.st with orc := r } }
    | _ => none
  | .code (.scope body) :: k => some (todo ss (.code body :: .inScope body :: k))
  | .code (.exit id) :: k =>
    match exitTo id k with
    | some k' => some (todo ss k')
    | none => none
  | .code (.goto l) :: k =>
    match gotoIn l k with
    | some k' => some (todo ss k')
    | none => none
  | .code (.region _ ops false) :: k => some (todo ss (.inRegion ops (List.range ops.toList.length) :: k))
  | .code (.region _ ops true) :: k =>
    match ss.st.orc with
    | .quiet :: r =>
      match P.follows .mixedOrders && Region.lexB .any ops with
      | true =>
        match quietOps P ops ops.toList ss.fr.tmps.toList ss.fr.defers { ss.st with orc := r, ro := true, cur := none } with
        | some (l, st) => some { todo { ss with fr := { ss.fr with tmps := ⟨l⟩ } } k with st := { st with ro := ss.st.ro } }
        | none => none
      | false => none
    | _ => none
  | .inRegion _ [] :: k => some (todo ss k)
  | .inRegion ops (i :: _) :: _ =>
    match lget ops.toList i with
    | some o =>
      match Region.wanted o (yielded ops ss.fr.tmps) with
      | true => sop P stops ss o
      | false =>
        match fin ss.fr undef with
        | some fr => some { ss with fr }
        | none => none
    | none => none
  | _ => none

/-- A frame is left by a return. -/
def sback (caller : Frame) : CallKind → Value → Option Frame
  | .normal, v => fin caller v
  | .deferred, _ =>
    match caller.mode with
    | .panicking ({ recovered := true, .. } :: older) =>
      match older.dropWhile (!·.goexit) with
      | [] => some { caller with mode := .returning }
      | rest => some { caller with mode := .panicking rest }
    | _ => some caller
  | _, _ => none

def sunwind (P : Program) (ss : SS) : Option SS :=
  match ss.fr.defers with
  | d :: ds =>
    match d.target with
    | .fn fv cap =>
      match sx P (invoke (.fn fv cap) d.args) ss.st with
      | some (.ok (.enter f args), st) => ent P f args .deferred fun fr => some ⟨fr, { ss.fr with defers := ds } :: ss.cs, st.ok, false⟩
      | _ => none
    | _ => none
  | [] =>
    match ss.fr.mode, ss.cs with
    | .panicking chain, caller :: rest =>
      match lget P.funcs.toList ss.fr.fn with
      | some _ => some ⟨caller.raise chain, rest, ss.st, false⟩
      | none => none
    | .returning, caller :: rest =>
      match lget P.funcs.toList ss.fr.fn with
      | some fn =>
        match sx P (results fn ss.fr.tmps) ss.st with
        | some (.ok v, st) =>
          match sback caller ss.fr.kind v with
          | some fr => some ⟨fr, rest, st.ok, false⟩
          | none => none
        | _ => none
      | none => none
    | _, _ => none

def sstep (P : Program) (stops : List Nat) (ss : SS) : Option SS :=
  match ss.off, ss.fr.roundOf, ss.st.cur with
  | false, none, none =>
    match ss.fr.mode with
    | .run => sexec P stops ss
    | _ => sunwind P ss
  | _, _, _ => none

def srun (P : Program) (stops : List Nat) : Nat → SS → SS
  | 0, ss => ss
  | n + 1, ss =>
    match sstep P stops ss with
    | some ss' => srun P stops n ss'
    | none => ss

/-! what each part is -/

theorem dstOf_eq (ops : Array Oper) (i : Nat) : dstOf ops i = (ops[i]?).bind (·.dst) := by
  unfold dstOf
  rw [lget_eq, Array.getElem?_toList]
  cases h : ops[i]? <;> simp

theorem putL_eq (l : List Value) (d : Option Nat) (v : Value) : (⟨putL l d v⟩ : Array Value) = match d with | some d => (⟨l⟩ : Array Value).setIfInBounds d v | none => ⟨l⟩ := by
  cases d with
  | none => rfl
  | some d => simp only [putL, lset_eq]; apply Array.toList_inj.1; simp

theorem fin_eq {fr fr' : Frame} {v : Value} (h : fin fr v = some fr') : fr' = fr.finish v ∧ fr'.roundOf = fr.roundOf := by
  unfold fin at h
  split at h
  · rename_i ops i rest k ht
    simp only [forceV_eq, forceL_eq, Option.some.injEq] at h
    subst h
    refine ⟨?_, rfl⟩
    simp only [Frame.finish, ht, putL_eq, dstOf_eq]
    cases (ops[i]?).bind (·.dst) <;> rfl
  · simp at h

theorem forceVs_eq {β : Type} : ∀ (l : List Value) (k : List Value → β), forceVs l k = k l
  | [], _ => rfl
  | v :: l, k => by simp [forceVs, forceV_eq, forceVs_eq l]

theorem ent_eq {β : Type} (P : Program) (f : FuncId) (args : Array Value) (kind : CallKind) (k : Frame → β) : ent P f args kind k = k (Frame.enter P f args kind) := by
  unfold ent
  split
  · rename_i fn h
    rw [lget_eq, Array.getElem?_toList] at h
    rw [forceVs_eq]
    congr 1
    simp only [Frame.enter, h, Option.map_some, Option.getD_some, Option.bind_some, Array.size]
    congr 1
    apply Array.toList_inj.1
    simp
  · rfl

theorem fixed_spec {β : Type} {w0 : World} {st : St} {d : Option Nat} {v : Value} {k : St → Value → β} {y : β} (h : fixed st d v k = y) :
    ∃ st' u, k st' u = y ∧ st'.s = st.s ∧ st'.L = st.L ∧ st'.ro = st.ro ∧ (Valid w0 st' → Valid w0 st ∧ u = v) ∧ st'.cur = st.cur := by
  unfold fixed at h
  split at h
  · split at h
    · exact ⟨_, _, h, rfl, rfl, rfl, fun hv => ⟨⟨hv.eq, hv.obs.2⟩, hv.obs.1.symm⟩, rfl⟩
    · exact ⟨_, _, h, rfl, rfl, rfl, fun hv => ⟨hv, rfl⟩, rfl⟩
  · exact ⟨_, _, h, rfl, rfl, rfl, fun hv => ⟨hv, rfl⟩, rfl⟩

theorem ok_valid {w0 : World} {st : St} (h : Valid w0 st.ok) : Valid w0 st := ⟨h.eq, h.obs⟩

end Go.Sx
