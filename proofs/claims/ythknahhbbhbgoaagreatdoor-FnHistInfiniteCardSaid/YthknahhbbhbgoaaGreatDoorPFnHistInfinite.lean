/- FnHistInfinite answers true for every input, and the input reads as it did: the tied card. No condition beyond the row's listed variables. -/
import Derived.Test.YthknahhbbhbgoaaGreatDoorVFnHistInfinite
import Derived.Test.YthknahhbbhbgoaaGreatDoorJFnHistInfinite
import Derived.Test.YthknahhbbhbgoaaGreatDoorTie
import Derived.Test.YthknahhbbhbgoaaGreatDoorCards
import Derived.ProofKit
import Derived.OpenShut
import Derived.LaidMore
import Derived.Lay
import Derived.Carry
import Derived.Deep.Slices
import Derived.SevenTiedAt
import Derived.Stop.Joined
namespace Go.Proofs.YthknahhbbhbgoaaGreatDoor.fnHistInfinite
open Go Go.Sx Go.ChangeShapes Go.WideShapes Go.ChangeAt Go.RowKit

theorem own : ownKnob Tryz.prog.godebug = none := by kernel_rfl
theorem gSep : Tryz.prog.globalNamed "pub-dialplate/pub/clientgolang/prometheus.separatorByteSlice" = some 2 := by kernel_rfl
theorem gSepType : (Tryz.prog.globals[2]?).map (·.type) = some 227 := by kernel_rfl
theorem cells5 : Tryz.prog.cellsOf 5 = 1 := by kernel_rfl

/-- What the row's list gives: the separator's slice, and its one byte. -/
theorem sep_of_laid {W : World} (h : laidMetH Tryz.prog Rows.fnHistInfiniteRow.laid W) : ∃ sep : Addr, W.cell? ⟨2, 0, none⟩ = some (.slice (some sep) 1 1) ∧ W.cell? (sep.add 0) = some (.int .u8 255) := by
  rw [MakeChecks.laidMetH_plain _ _ _ (by kernel_rfl)] at h
  obtain ⟨ps, ⟨_, _, _, _, _, _, _, _, _, _, ⟨_, _, _, _, _, _, _, _, _, _, ⟨_, _, _, _, _, _, _, _, _, _, ⟨g, t, cs, fuel, p, q, hg, ht, hv, hd, _, _⟩, _⟩, _⟩, _⟩, _, _⟩ := h
  obtain rfl := Option.some.inj (gSep.symm.trans hg)
  obtain rfl := Option.some.inj (gSepType.symm.trans ht)
  obtain ⟨a, cap, hcs, _, hel⟩ := open_row Tryz.underlying227 cells5 hd
  obtain ⟨v, n, q', hcell, htrod⟩ := hel 0 _ rfl
  obtain ⟨z, hz, hx, _⟩ := DataW.trod_int Tryz.underlying5 htrod
  have hcap : cap = 1 := by
    rcases DataW.trod_slice Tryz.underlying227 hd with ⟨_, hx⟩ | ⟨a', len, cap', elems, rest, n, _, hcs', hx', _, hl, _, hlen, _, hrest, _⟩
    · cases hx
    · rw [hcs] at hcs'
      simp only [List.cons.injEq, Value.slice.injEq, and_true] at hcs'
      obtain ⟨_, h1, h2⟩ := hcs'
      have hr := (hrest rfl).1
      have hr0 : rest = [] := by
        have h3 : DataW.slice [.lit (.int .u8 255)] [] = DataW.slice (elems.map (·.1)) (rest.map (·.1)) := congrArg Prod.fst hx'
        have h4 := (DataW.slice.inj h3).2.symm
        simpa using h4
      rw [hr0] at hr
      simp at hr h1
      omega
  have h0 := World.var?_cell hg hv 0
  have hc0 : cs[0]? = some (.slice (some a) 1 1) := by
    have : cs.toList[0]? = some (.slice (some a) 1 cap) := by rw [hcs]; rfl
    rw [hcap] at this
    simpa using this
  refine ⟨a, h0.trans hc0, ?_⟩
  rw [hcell]
  simp only [List.cons.injEq, and_true] at hz
  simp only [Prod.mk.injEq, DataW.lit.injEq, Lit.int.injEq, true_and] at hx
  rw [hz, ← hx.1]

theorem kept_of_good {W w' : World} {s : Nat} (g : Sx.Good W s [] w') (may : MemPlace → Prop) : W.keptBut w' may := by
  refine ⟨g.os, g.output, fun i hi => ?_⟩
  rw [g.old i hi]
  cases h : W.heap[i]? with
  | none => rfl
  | some o =>
    cases o with
    | cells c t fr => exact ⟨rfl, rfl, rfl, fun _ _ => rfl⟩
    | map es clock => exact Or.inr ⟨rfl, rfl⟩
    | _ => rfl


theorem below_of_good {W w' : World} {s : Nat} (g : Sx.Good W s [] w') : Below W.heap.size W w' :=
  ⟨g.os, g.tape, g.output, by rw [g.size]; exact g.base, fun k hk => g.old k hk⟩

theorem trod_float {H : Type} {enc : TypeId × Value → H} {P : Program} {w : World} {base : Nat} {spare : Nat → Bool} {held : Bool} {fuel : Nat} {t : TypeId} {k : FloatKind} {cs : List Value} {x : DataW H × List MemPlace} (ht : P.underlying t = some (.float k)) (h : DataW.trod enc P w base spare held fuel t cs = some x) : ∃ b, cs = [.float k b] := by
  cases fuel with
  | zero => simp [DataW.trod] at h
  | succ n =>
    unfold DataW.trod at h
    rw [ht] at h
    split at h <;> simp_all

/-- A slice of floating-point numbers, opened. -/
theorem open_floats {H : Type} {enc : TypeId × Value → H} {P : Program} {W : World} {t e : TypeId} {v : Value} {d : DataW H} {p : List MemPlace} (ht : P.underlying t = some (.slice e)) (he : P.underlying e = some (.float .f64)) (hc : P.cellsOf e = 1) (hval : Value.okWide P W .any 0 t v)
    (h : DataW.Trod enc P W 0 (fun _ => true) true t v d p) :
    ∃ (la : Option Addr) (M sc : Nat) (V : Nat → Nat), v = .slice la M sc ∧ (∀ a, la = some a → ∀ i, i < M → W.cell? (a.add (i * 1)) = some (.float .f64 (V i))) ∧ (la = none → M = 0) := by
  obtain ⟨a0, len, cap, rfl⟩ := Go.WideShapes.okWide_slice ht hval
  obtain ⟨fuel, hf⟩ := h
  rcases Go.Deep.open_slice1 ht hc hf with ⟨h1, _⟩ | ⟨a, len', cap', m, n, V, D, Pl, h1, _, hl, _, hm, _, hel⟩
  · simp only [Value.cells, List.cons.injEq, and_true, Value.slice.injEq] at h1
    obtain ⟨rfl, rfl, rfl⟩ := h1
    exact ⟨none, 0, 0, fun _ => 0, rfl, fun a h => (by cases h), fun _ => rfl⟩
  · simp only [Value.cells, List.cons.injEq, and_true, Value.slice.injEq] at h1
    obtain ⟨rfl, rfl, rfl⟩ := h1
    simp only [if_true] at hm
    have hch : ∀ i, i < len → ∃ q : Nat, W.cell? (a.add (i * 1)) = some (.float .f64 q) := fun i hi => by
      obtain ⟨h2, h3⟩ := hel i (by omega)
      obtain ⟨q, h4⟩ := trod_float he h3
      simp only [List.cons.injEq, and_true] at h4
      rw [Nat.mul_one]
      exact ⟨q, by rw [h2, h4]⟩
    refine ⟨some a, len, cap, fun i => if hi : i < len then (hch i hi).choose else 0, rfl, fun a' ha i hi => ?_, fun h => (by cases h)⟩
    cases ha
    simp only [hi, dif_pos]
    exact (hch i hi).choose_spec

set_option maxRecDepth 100000 in
theorem lifted (os : Os) (started : os.Started) (H : Type) (enc : TypeId × Value → H) :
    ReturnsInHanded {} Tryz.checked os 3 .any (fun w args => (Rows.fnHistInfiniteSpec.pre enc Tryz.prog Tryz.f3 Rows.fnHistInfiniteRow.domain false w args ∧ laidMetH Tryz.prog Rows.fnHistInfiniteRow.laid w) ∧ sizedMet enc Tryz.prog Tryz.f3 (OpenSpec.ofChange Rows.fnHistInfiniteSpec) false w args)
      (Rows.fnHistInfiniteSpec.post enc Tryz.prog Tryz.f3 false true false false) := by
  refine returnsInHanded_of_change_and (C := Tryz.checked) (X := fun w _ => laidMetH Tryz.prog Rows.fnHistInfiniteRow.laid w) (fun _ _ _ hh h => h.of_heap hh) own started (by kernel_rfl) Tryz.func3
    (ChangeSpec.witness_shaped (enc := enc) (C := Tryz.checked) (os := os) (X := fun w _ => laidMetH Tryz.prog Rows.fnHistInfiniteRow.laid w) false (World.laidAll Tryz.prog os Rows.fnHistInfiniteRow.laid) #[.slice none 0 0, .slice none 0 0] 8 (World.laidAll_os _ _ _)
      (World.shaped_of_ZipB (by kernel_rfl) (by kernel_rfl)) (by kernel_rfl) (by kernel_rfl) (by kernel_rfl)
      (by rw [MakeChecks.laidMetH_plain _ _ _ (by kernel_rfl)]; exact laidMet_laidAll _ (by kernel_rfl) (by kernel_rfl))) ?_
  intro W base args ds gs before hval0 hW hc _ hL _
  have hval : ∀ (j : Nat) t v, Tryz.f3.params[j]? = some t → args[j]? = some v → Value.okWide Tryz.prog W .any base t v := hval0
  have hW' := hW
  obtain ⟨p, q, hA0, hV, rfl, _, _⟩ := hW
  have hA : DataW.TrodAll enc Tryz.prog W 0 (fun _ => true) true Tryz.f3.params.toList args.toList ds p := hA0
  rw [Tryz.params3] at hA hval
  obtain ⟨v0, v1, d0, d1, p0, p1, rfl, rfl, rfl, h0, h1⟩ := trodAll_two hA
  obtain ⟨rfl, rfl⟩ := trodVars_none hV
  obtain ⟨la1, M1, sc1, V1, hv0, hold1, hla1⟩ := open_floats Tryz.underlying22 Tryz.underlying27 (by kernel_rfl) (hval 0 22 v0 rfl rfl) h0
  obtain ⟨la2, M2, sc2, V2, hv1, hold2, hla2⟩ := open_floats Tryz.underlying22 Tryz.underlying27 (by kernel_rfl) (hval 1 22 v1 rfl rfl) h1
  subst hv0
  subst hv1
  have hlt0 : ∀ x ∈ p0, x.block < W.heap.size := fun x hx => by simpa using hW'.lt x (by simp [hx])
  have hlt1 : ∀ x ∈ p1, x.block < W.heap.size := fun x hx => by simpa using hW'.lt x (by simp [hx])
  obtain ⟨sep, hsep, hsep1⟩ := sep_of_laid hL
  refine (c_fnHistInfinite W sep hsep hsep1 la1 M1 sc1 V1 la2 M2 sc2 V2 hold1 hla1 hold2 hla2 W.heap.size [] W (Sx.Good.start W)).mono fun e W' ⟨he, s', hg⟩ => ?_
  subst he
  refine ⟨_, rfl, _, _, _, [], p0 ++ p1, [], hW', trodAll_mk1 (shut_bool Tryz.underlying4 _), ?_, rfl, kept_of_good hg _, fun h => by cases h⟩
  exact trodAll_mk2 (Below.trod jf1 (by kernel_rfl) (of_decide_eq_true (by kernel_rfl)) h0 (below_of_good hg) hlt0) (Below.trod jf1 (by kernel_rfl) (of_decide_eq_true (by kernel_rfl)) h1 (below_of_good hg) hlt1)

theorem said : Rows.FnHistInfiniteSaid :=
  OpenClaim.holds_of_wide 3 Tryz.f3 rfl rfl rfl rfl rfl rfl rfl ⟨rfl, rfl, rfl, rfl, rfl⟩ rfl rfl rfl rfl rfl (by kernel_rfl) Tryz.func3 facts
    (of_decide_eq_true (by kernel_rfl)) (by unfold Func.isWrapper; rw [if_neg (of_decide_eq_false (by kernel_rfl))]; exact ⟨rfl, rfl⟩)
    (fun os started H enc _ => lifted os started H enc)

/-- FnHistInfinite: the tied card. -/
theorem card_holds : Rows.FnHistInfiniteCardSaid :=
  Claim7.holds_tied_plain_at .later [] [.data, .sentinel, .sentinel, .widerDeep, .wider, .pinned] true (true, "04816e316638a76ac747d7152cb99f597ae0f4c84fa159d604abfd81a5de6834") true said (fun _ h => by cases h) (by kernel_rfl) (fun _ h => by cases h) fnHistInfinite_row_tie rfl ⟨rfl, rfl⟩ (by kernel_rfl) rfl
    (fun f fn hf hfn => by
      obtain rfl : f = 3 := Option.some.inj ((show Tryz.prog.funcNamed "pub-dialplate/laws.FnHistInfinite" = some 3 by kernel_rfl).symm.trans hf) |>.symm
      obtain rfl : fn = Tryz.f3 := (Option.some.inj (Tryz.func3.symm.trans hfn)).symm
      exact ⟨by kernel_rfl, fun j t ht => by
        rw [Tryz.params3] at ht
        have hm : t ∈ [22, 22] := by simpa using Array.mem_of_getElem? ht
        have hall : ([22, 22].all fun u => !Tryz.prog.wantsStandIn u) = true := by kernel_rfl
        exact (show Tryz.prog.wantsStandIn t = false by simpa using List.all_eq_true.1 hall t hm)⟩)
    (by kernel_rfl)
#print axioms card_holds
end Go.Proofs.YthknahhbbhbgoaaGreatDoor.fnHistInfinite
