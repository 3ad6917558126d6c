/- The reckoner of this claim's walks, its seventeenth part: operations by hand that touch no memory. -/
import Derived.Test.YthknahhbbhbgoaaGreatDoorSx16
import Derived.Laws.FloatArith
namespace Go.Sx
open Go

section
variable {P : Program} {w0 : World}

theorem ho_pure {m : Sem Next} {v : Value} (h : ∀ w, m.run P w = .ok (.value v) w) : HO.holds P w0 PU.n ⟨m, [], [], fun _ => (v, [], [])⟩ := by
  intro s F w g
  refine ⟨⟨s, 0, 0, undef, [], fun _ => 0⟩, s, w, rfl, h w, ?_⟩
  simpa using g

def arithSem (op : BinOp) (t : TypeId) (xo yo : Operand) (x y : Value) : Sem Next := do
  pure (.value (← (do eqGuard op t xo yo x y; binOp op t x y)))

theorem ho_add (t : TypeId) (xo yo : Operand) (x y r : Nat) (h : Ieee.double.add x y = some r) : HO.holds P w0 PU.n ⟨arithSem .add t xo yo (.float .f64 x) (.float .f64 y), [], [], fun _ => (.float .f64 r, [], [])⟩ := by
  refine ho_pure fun w => ?_
  have h' : FloatKind.f64.format.add x y = some r := h
  simp [arithSem, eqGuard, binOp, Op.floatArith, h']

end

section
variable {P : Program} {w0 : World} {F : List (Nat × Obj)} {cs0 : List Frame} {Φ : Machine → Prop}

/-- At a loop's head, met again. -/
theorem Goes.again {fr fr' : Frame} {cs : List Frame} {s : Nat} {L : List (Nat × Obj)} (body : Code) (k : List Item) (hm : fr.mode = .run) (ht : fr.todo = .inLoop body :: k)
    (hf : fr' = { fr with todo := .code body :: .inLoop body :: k }) (h : Goes P w0 F cs0 Φ fr' cs s L) : Goes P w0 F cs0 Φ fr cs s L := by
  have e : fr = { fr with todo := .inLoop body :: k } := by cases fr; simp only at ht; rw [ht]
  rw [e]
  exact (Goes.head hm (hf ▸ h)).2

/-- At a loop's head, met the first time. -/
theorem Goes.first {fr fr' : Frame} {cs : List Frame} {s : Nat} {L : List (Nat × Obj)} (body : Code) (k : List Item) (hm : fr.mode = .run) (ht : fr.todo = .code (.loop body) :: k)
    (hf : fr' = { fr with todo := .code body :: .inLoop body :: k }) (h : Goes P w0 F cs0 Φ fr' cs s L) : Goes P w0 F cs0 Φ fr cs s L := by
  have e : fr = { fr with todo := .code (.loop body) :: k } := by cases fr; simp only at ht; rw [ht]
  rw [e]
  exact (Goes.head hm (hf ▸ h)).1

end
end Go.Sx
