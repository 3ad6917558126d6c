/- The reckoner of this claim's walks, its eighteenth part: a sum of two floating-point numbers, whatever they are. -/
import Derived.Test.YthknahhbbhbgoaaGreatDoorSx17
import Derived.Test.YthknahhbbhbgoaaGreatDoorFl2
import Derived.Conc.AtomicLaws2
import Derived.Laws.StandIn
namespace Go.Sx
open Go Go.Fl Go.Conc

/-- A NaN. -/
def nanOf (t : Nat) : Nat := (t % 2) * 2 ^ 63 + 0x7ff0000000000000 + 1 + (t / 2) % (2 ^ 52 - 1)

/-- A sum: where it is a NaN, t tells which. -/
def sumv (x y t : Nat) : Nat := match Ieee.double.add x y with | some r => r | none => nanOf t

section
variable {P : Program} {w0 : World}

theorem ho_fadd (t : TypeId) (xo yo : Operand) (x y : Nat) : HO.holds P w0 PU.n ⟨arithSem .add t xo yo (.float .f64 x) (.float .f64 y), [], [], fun u => (.float .f64 (sumv x y u.x), [], [])⟩ := by
  intro s F w g
  simp only [List.nil_append] at g
  cases h : Ieee.double.add x y with
  | some r =>
    have h' : FloatKind.f64.format.add x y = some r := h
    refine ⟨⟨s, 0, 0, undef, [], fun _ => 0⟩, s, w, rfl, ?_, by simpa using g⟩
    simp [arithSem, eqGuard, binOp, Op.floatArith, h', sumv, h]
  | none =>
    have h' : FloatKind.f64.format.add x y = none := h
    refine ⟨⟨s, w.tape w.drawn (.nanBits .f64 x y), 0, undef, [], fun _ => 0⟩, s, w.drew, rfl, ?_, g.drew _⟩
    simp [arithSem, eqGuard, binOp, Op.floatArith, h', sumv, h, Question.forced]
    rfl

theorem ho_fadd' {σ : Nat → Nat → Nat → Nat} (hσ : σ = sumv) (t : TypeId) (xo yo : Operand) (x y : Nat) : HO.holds P w0 PU.n ⟨arithSem .add t xo yo (.float .f64 x) (.float .f64 y), [], [], fun u => (.float .f64 (σ x y u.x), [], [])⟩ := by
  rw [hσ]
  exact ho_fadd t xo yo x y

theorem setCell_is {w : World} {b off : Nat} {c : Array Value} {te : TypeId} {f : Nat × Nat} (h : w.heap[b]? = some (.cells c te f)) (v : Value) :
    w.setCell ⟨b, off, none⟩ v = { w with heap := w.heap.setIfInBounds b (.cells (c.setIfInBounds off v) te f) } := by
  have hlt : b < w.heap.size := (Array.getElem?_eq_some_iff.1 h).1
  have hge : w.heap[b] = .cells c te f := (Array.getElem?_eq_some_iff.1 h).2
  unfold World.setCell
  congr 1
  apply Array.ext_getElem?
  intro j
  rw [Array.getElem?_modify, Array.getElem?_setIfInBounds]
  by_cases e : b = j
  · subst e; simp [hlt, hge]
  · simp [e]

/-- A compare-and-swap that finds what it looks for. -/
theorem ho_cas {f : FuncId} {fn : Func} (hf : P.funcs[f]? = some fn) (hname : (fn.name == "runtime.NumGoroutine") = false) (hb : fn.body.isNone = true) (hn : Extern.findNext fn = none)
    (he : Extern.find fn = some (Extern.Atomic.casT (.int .u64))) (b off : Nat) (cs cs' : Array Value) (te : TypeId) (old new : Int) (hold : cs[off]? = some (.int .u64 old)) (hnew : cs.setIfInBounds off (.int .u64 new) = cs') :
    HO.holds P w0 PU.n ⟨callFunc f #[.pointer (some ⟨b, off, none⟩), .int .u64 old, .int .u64 new], [], [(b, .cells cs te)], fun _ => (.bool true, [(b, .cells cs' te)], [])⟩ := by
  intro s F w g
  simp only [List.nil_append, List.cons_append] at g
  have hw := g.at (b := b) (o := .cells cs te) (by simp)
  have hc : w.cell? ⟨b, off, none⟩ = some (.int .u64 old) := by simp [World.cell?, hw, hold]
  have hz : w.frozen? ⟨b, off, none⟩ = false := by simp [World.frozen?, hw]
  refine ⟨⟨s, 0, 0, undef, [], fun _ => 0⟩, s, w.setCell ⟨b, off, none⟩ (.int .u64 new), rfl, ?_, ?_⟩
  · show (callFunc f _).run P w = _
    rw [run_callFunc_extern hf hname hb hn he, casT_eq, run_cas_hit_entry hc hz]
    rfl
  · simp only [List.nil_append, List.cons_append]
    rw [setCell_is hw, hnew]
    exact g.turn (A := []) (B := F) _

end
end Go.Sx
