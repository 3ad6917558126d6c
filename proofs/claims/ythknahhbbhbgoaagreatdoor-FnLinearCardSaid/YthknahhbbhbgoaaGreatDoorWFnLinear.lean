/- FnLinear answers true for every three whole numbers. For every world in which the separator's slice lies. -/
import Derived.Test.YthknahhbbhbgoaaGreatDoorWLives
import Derived.Test.YthknahhbbhbgoaaGreatDoorWImplLinear
namespace Go.Sx
open Go Go.Proofs Go.Fl
open Go.Lib (strCells)

/-- The numbers of linear buckets. -/
def lx (A B : Int) : Nat → Nat
  | 0 => enc A
  | i + 1 => enc (A + ((i + 1 : Nat) : Int) * B)

theorem lx_eq (A B : Int) (i : Nat) : lx A B i = enc (A + (i : Int) * B) := by
  cases i with
  | zero => simp [lx]
  | succ i => rfl

theorem Good.start (w0 : World) : Good w0 w0.heap.size [] w0 := ⟨rfl, Nat.le_refl _, fun _ _ => rfl, by simp, by simp, rfl, rfl, rfl⟩

theorem mul_small {i : Nat} {B : Int} (hi : i < 1001) (hB : B.natAbs < 1099511627776) : ((i : Int) * B).natAbs ≤ 1100611139403776 := by
  rw [Int.natAbs_mul, Int.natAbs_natCast]
  have h1 : i ≤ 1000 := by omega
  have h2 : B.natAbs ≤ 1099511627776 := by omega
  have := Nat.mul_le_mul h1 h2
  omega

theorem sum_small {i : Nat} {A B : Int} (hi : i < 1001) (hA : A.natAbs < 1099511627776) (hB : B.natAbs < 1099511627776) : (A + (i : Int) * B).natAbs ≤ 1101710651031552 := by
  have := mul_small hi hB
  omega

theorem lx_add {A B : Int} (hA : A.natAbs < 1099511627776) (hB : B.natAbs < 1099511627776) {n : Nat} (hn : n ≤ 1000) : ∀ i, i < n → Ieee.double.add (lx A B i) (enc B) = some (lx A B (i + 1)) := by
  intro i hi
  rw [lx_eq, lx_eq]
  have h1 := sum_small (i := i) (by omega) hA hB
  have h2 := sum_small (i := i + 1) (by omega) hA hB
  have e : A + ((i + 1 : Nat) : Int) * B = A + (i : Int) * B + B := by
    rw [Int.natCast_add, Int.add_mul]
    omega
  have p53 : (2 : Nat) ^ 53 = 9007199254740992 := by decide
  rw [e] at h2 ⊢
  exact add_enc (by rw [p53]; omega) (by rw [p53]; omega) (by rw [p53]; omega)

theorem fl_get (x : Nat → Nat) {n i : Nat} (hi : i < n) : (⟨fl x n⟩ : Array Value)[0 + i]? = some (.float .f64 (x i)) := by
  simp [fl, hi]

structure FI (n : Nat) where
  i : Nat
  h : i ≤ n
  r : Nat → Value
  s : Nat

noncomputable def finS (x : Nat → Nat) (A B : Int) (n b : Nat) (j : FI n) : Frame × List Frame × Nat × List (Nat × Obj) :=
  (⟨5, #[.int .i64 A, .int .i64 B, .int .i64 n, j.r 3, j.r 4, j.r 5, .bool false, .slice (some ⟨b, 0, none⟩) n n, .bool true, .int .i64 j.i, j.r 10, j.r 11, j.r 12, j.r 13, j.r 14, j.r 15, j.r 16, j.r 17, j.r 18, j.r 19, j.r 20, j.r 21, j.r 22, j.r 23, j.r 24, j.r 25, j.r 26, j.r 27, j.r 28, j.r 29, j.r 30, j.r 31, j.r 32, j.r 33, j.r 34, j.r 35, j.r 36, j.r 37, j.r 38, j.r 39, j.r 40, j.r 41, j.r 42, j.r 43, j.r 44, j.r 45, j.r 46, j.r 47, j.r 48, j.r 49, j.r 50, j.r 51, j.r 52, j.r 53, j.r 54, j.r 55, j.r 56, j.r 57, j.r 58, j.r 59], [.code (codeAt Tryz.prog 5 [1, 1, 1, 1, 1, 0, 1, 0, 0]), .inLoop (codeAt Tryz.prog 5 [1, 1, 1, 1, 1, 0, 1, 0, 0]), .inBlock 0, .code (codeAt Tryz.prog 5 [1, 1, 1, 1, 1, 1])], [], .run, .normal, none⟩, [], j.s, [(b, .cells ⟨fl x n⟩ 27)])

set_option maxRecDepth 100000 in
theorem fnLinear_step (w0 : World) (A B : Int) (n b : Nat) (hA : A.natAbs < 1099511627776) (hB : B.natAbs < 1099511627776) (hn : n ≤ 1000) (F : List (Nat × Obj)) (cs0 : List Frame) (Φ : Machine → Prop)
    (j : FI n) (hi : j.i < n) (ih : ∀ k : FI n, k.i = j.i + 1 → Goes Tryz.prog w0 F cs0 Φ (finS (lx A B) A B n b k).1 (finS (lx A B) A B n b k).2.1 (finS (lx A B) A B n b k).2.2.1 (finS (lx A B) A B n b k).2.2.2) :
    Goes Tryz.prog w0 F cs0 Φ (finS (lx A B) A B n b j).1 (finS (lx A B) A B n b j).2.1 (finS (lx A B) A B n b j).2.2.1 (finS (lx A B) A B n b j).2.2.2 := by
  obtain ⟨i, hin, r, s⟩ := j
  simp only at hi ih
  have hlt0 : decide ((i : Int) < (n : Int)) = true := decide_eq_true (by omega)
  have hget := fl_get (lx A B) hi
  have m1 := mul_small (i := i) (by omega) hB
  have m2 := sum_small (i := i) (by omega) hA hB
  have hmul : (Value.int .i64 (IntKind.i64.wrap ((i : Int) * B))) = .int .i64 ((i : Int) * B) := by rw [IntKind.wrap_i64]; congr 1; omega
  have hadd : (Value.int .i64 (IntKind.i64.wrap (A + (i : Int) * B))) = .int .i64 (A + (i : Int) * B) := by rw [IntKind.wrap_i64]; congr 1; omega
  have hneq : (Value.bool (FloatKind.f64.format.order (lx A B i) (FloatKind.f64.nearest (A + (i : Int) * B)) != some Ordering.eq)) = .bool false := by
    have p53 : (2 : Nat) ^ 53 = 9007199254740992 := by decide
    have h := order_enc (a := A + (i : Int) * B) (b := A + (i : Int) * B) (by rw [p53]; omega) (by rw [p53]; omega)
    have hc : compare (A + (i : Int) * B) (A + (i : Int) * B) = .eq := by rw [Int.compare_eq_ite_lt]; simp
    rw [hc] at h
    rw [lx_eq]
    have h' : FloatKind.f64.format.order (enc (A + (i : Int) * B)) (FloatKind.f64.nearest (A + (i : Int) * B)) = some .eq := h
    rw [h']
    rfl
  show Goes Tryz.prog w0 F cs0 Φ ⟨5, #[.int .i64 A, .int .i64 B, .int .i64 n, r 3, r 4, r 5, .bool false, .slice (some ⟨b, 0, none⟩) n n, .bool true, .int .i64 i, r 10, r 11, r 12, r 13, r 14, r 15, r 16, r 17, r 18, r 19, r 20, r 21, r 22, r 23, r 24, r 25, r 26, r 27, r 28, r 29, r 30, r 31, r 32, r 33, r 34, r 35, r 36, r 37, r 38, r 39, r 40, r 41, r 42, r 43, r 44, r 45, r 46, r 47, r 48, r 49, r 50, r 51, r 52, r 53, r 54, r 55, r 56, r 57, r 58, r 59], [.code (codeAt Tryz.prog 5 [1, 1, 1, 1, 1, 0, 1, 0, 0]), .inLoop (codeAt Tryz.prog 5 [1, 1, 1, 1, 1, 0, 1, 0, 0]), .inBlock 0, .code (codeAt Tryz.prog 5 [1, 1, 1, 1, 1, 1])], [], .run, .normal, none⟩ [] s [(b, .cells ⟨fl (lx A B) n⟩ 27)]
  refine Goes.seg [8] 16 [.br true] (fr' := ⟨5, #[(.int .i64 (A)), (.int .i64 (B)), (.int .i64 ((↑n : Int))), (r 3), (r 4), (r 5), (.bool (false)), (.slice (some ⟨b, 0, none⟩) (n) (n)), (.bool (true)), (.int .i64 ((↑i : Int))), (r 10), (r 11), (r 12), (r 13), (r 14), (r 15), (r 16), (r 17), (r 18), (r 19), (r 20), (r 21), (r 22), (r 23), (r 24), (r 25), (r 26), (r 27), (r 28), (r 29), (r 30), (r 31), (r 32), (.int .i64 ((↑i : Int))), (.slice (some ⟨b, 0, none⟩) (n) (n)), (.int .i64 ((↑n : Int))), (.bool (decide ((↑i : Int) < (↑n : Int)))), (r 37), (r 38), (.slice (some ⟨b, 0, none⟩) (n) (n)), (.int .i64 ((↑i : Int))), (r 41), (r 42), (r 43), (r 44), (r 45), (r 46), (r 47), (r 48), (r 49), (r 50), (r 51), (r 52), (r 53), (r 54), (r 55), (r 56), (r 57), (r 58), (r 59)], [.inRegion (opsAt Tryz.prog 5 [1, 1, 1, 1, 1, 0, 1, 0, 0, 1, 0, 0, 0]) [2, 3, 4, 5, 6, 7, 8, 9, 10], .code (codeAt Tryz.prog 5 [1, 1, 1, 1, 1, 0, 1, 0, 0, 1, 0, 0, 1]), .inBlock 1, .code (codeAt Tryz.prog 5 [1, 1, 1, 1, 1, 0, 1, 0, 0, 1, 1]), .inLoop (codeAt Tryz.prog 5 [1, 1, 1, 1, 1, 0, 1, 0, 0]), .inBlock 0, .code (codeAt Tryz.prog 5 [1, 1, 1, 1, 1, 1])], [], .run, .normal, none⟩) (cs' := []) (s' := s) (L' := [(b, (.cells ⟨fl (lx A B) n⟩ 27))]) (ob := [(.test (decide ((↑i : Int) < (↑n : Int))) true)]) (by kernel_rfl) (by kernel_rfl) (by repeat first | exact trivial | (refine And.intro (by first | assumption | rfl) ?_)) ?_
  refine Goes.inOrder [.rdo [] [], .rdo [] [], .hand [] [] [] (fun _ => (.pointer (some ⟨b, i * 1, none⟩), [], [])), .rdo [0] [.ldv 0 (.float .f64 (lx A B i))], .rdo [] [], .rdo [] [], .rdo [] [], .rdo [] [.fix 46 (.int .i64 ((i : Int) * B))], .rdo [] [.fix 47 (.int .i64 (A + (i : Int) * B))], .rdo [] [], .rdo [] [.fix 49 (.bool false)]] 0 rfl rfl rfl rfl (fun ν0 => ⟨[(.int .i64 (A)), (.int .i64 (B)), (.int .i64 ((↑n : Int))), (r 3), (r 4), (r 5), (.bool (false)), (.slice (some ⟨b, 0, none⟩) (n) (n)), (.bool (true)), (.int .i64 ((↑i : Int))), (r 10), (r 11), (r 12), (r 13), (r 14), (r 15), (r 16), (r 17), (r 18), (r 19), (r 20), (r 21), (r 22), (r 23), (r 24), (r 25), (r 26), (r 27), (r 28), (r 29), (r 30), (r 31), (r 32), (.int .i64 ((↑i : Int))), (.slice (some ⟨b, 0, none⟩) (n) (n)), (.int .i64 ((↑n : Int))), (.bool (decide ((↑i : Int) < (↑n : Int)))), (r 37), (r 38), (.slice (some ⟨b, 0, none⟩) (n) (n)), (.int .i64 ((↑i : Int))), (.pointer (some ⟨b, (0 + i), none⟩)), (.float .f64 (lx A B i)), (.int .i64 (A)), (.int .i64 ((↑i : Int))), (.int .i64 (B)), (.int .i64 ((↑i : Int) * B)), (.int .i64 (A + (↑i : Int) * B)), (.float .f64 (FloatKind.f64.nearest (A + (↑i : Int) * B))), (.bool (false)), (r 50), (r 51), (r 52), (r 53), (r 54), (r 55), (r 56), (r 57), (r 58), (r 59)], [some (b, (.cells ⟨fl (lx A B) n⟩ 27))]⟩) (fun ν0 => [(.get (⟨fl (lx A B) n⟩) ((0 + i)) (.float .f64 (lx A B i))), (.val (.int .i64 (IntKind.i64.wrap ((↑i : Int) * B))) (.int .i64 ((↑i : Int) * B))), (.val (.int .i64 (IntKind.i64.wrap (A + (↑i : Int) * B))) (.int .i64 (A + (↑i : Int) * B))), (.val (.bool (FloatKind.f64.format.order (lx A B i) (FloatKind.f64.nearest (A + (↑i : Int) * B)) != some Ordering.eq)) (.bool (false)))]) (fun ν0 => []) (fun ν0 => [⟨(indexSem 22 (.slice (some ⟨b, 0, none⟩) n n) (.int .i64 i)), [], [], (fun _ => (.pointer (some ⟨b, i * 1, none⟩), [], []))⟩]) (fun ν0 => by kernel_rfl) (fun ν0 => by kernel_rfl) (fun ν0 => ⟨hget, hmul, hadd, hneq, trivial⟩) (fun ν0 => trivial) (fun ν0 => ⟨(ho_index 22 27 1 (by kernel_rfl) (by kernel_rfl) b n n i hi), trivial⟩) ?_
  intro ν0 s0
  refine Goes.seg [8] 100000 [.brc false] (fr' := ⟨5, #[(.int .i64 (A)), (.int .i64 (B)), (.int .i64 ((↑n : Int))), (r 3), (r 4), (r 5), (.bool (false)), (.slice (some ⟨b, 0, none⟩) (n) (n)), (.bool (true)), (.int .i64 (IntKind.i64.wrap ((↑i : Int) + 1))), (r 10), (r 11), (r 12), (r 13), (r 14), (r 15), (r 16), (r 17), (r 18), (r 19), (r 20), (r 21), (r 22), (r 23), (r 24), (r 25), (r 26), (r 27), (r 28), (r 29), (r 30), (r 31), (r 32), (.int .i64 ((↑i : Int))), (.slice (some ⟨b, 0, none⟩) (n) (n)), (.int .i64 ((↑n : Int))), (.bool (decide ((↑i : Int) < (↑n : Int)))), (.int .i64 ((↑i : Int))), (.int .i64 (IntKind.i64.wrap ((↑i : Int) + 1))), (.slice (some ⟨b, 0, none⟩) (n) (n)), (.int .i64 ((↑i : Int))), (.pointer (some ⟨b, (0 + i), none⟩)), (.float .f64 (lx A B i)), (.int .i64 (A)), (.int .i64 ((↑i : Int))), (.int .i64 (B)), (.int .i64 ((↑i : Int) * B)), (.int .i64 (A + (↑i : Int) * B)), (.float .f64 (FloatKind.f64.nearest (A + (↑i : Int) * B))), (.bool (false)), (r 50), (r 51), (r 52), (r 53), (r 54), (r 55), (r 56), (r 57), (r 58), (r 59)], [.inLoop (codeAt Tryz.prog 5 [1, 1, 1, 1, 1, 0, 1, 0, 0]), .inBlock 0, .code (codeAt Tryz.prog 5 [1, 1, 1, 1, 1, 1])], [], .run, .normal, none⟩) (cs' := []) (s' := s0) (L' := [(b, (.cells ⟨fl (lx A B) n⟩ 27))]) (ob := []) (by kernel_rfl) (by kernel_rfl) trivial ?_
  rw [wrap_succ hi (by omega)]
  have key := ih ⟨i + 1, hi, fun j => match j with | 33 => .int .i64 i | 34 => .slice (some ⟨b, 0, none⟩) n n | 35 => .int .i64 n | 36 => .bool (decide ((i : Int) < (n : Int))) | 37 => .int .i64 i | 38 => .int .i64 ((i + 1 : Nat) : Int) | 39 => .slice (some ⟨b, 0, none⟩) n n | 40 => .int .i64 i | 41 => .pointer (some ⟨b, 0 + i, none⟩) | 42 => .float .f64 (lx A B i) | 43 => .int .i64 A | 44 => .int .i64 i | 45 => .int .i64 B | 46 => .int .i64 ((i : Int) * B) | 47 => .int .i64 (A + (i : Int) * B) | 48 => .float .f64 (FloatKind.f64.nearest (A + (i : Int) * B)) | 49 => .bool false | j => r j, s0⟩ rfl
  exact Goes.again _ _ rfl rfl rfl key

set_option maxRecDepth 100000 in
theorem fnLinear_end (w0 : World) (sep : Addr) (hsep : w0.cell? ⟨2, 0, none⟩ = some (.slice (some sep) 1 1)) (hsep1 : w0.cell? (sep.add 0) = some (.int .u8 255)) (A B : Int) (n b : Nat) (F : List (Nat × Obj)) (cs0 : List Frame) (R : Ending → World → Prop)
    (hR : ∀ s w', Good w0 s F w' → R (.returned (.bool true)) w')
    (j : FI n) (hi : ¬ j.i < n) :
    Goes Tryz.prog w0 F cs0 (Ends Tryz.prog 5 R cs0) (finS (lx A B) A B n b j).1 (finS (lx A B) A B n b j).2.1 (finS (lx A B) A B n b j).2.2.1 (finS (lx A B) A B n b j).2.2.2 := by
  obtain ⟨i, hin, r, s⟩ := j
  simp only at hi
  have hlt0 : decide ((i : Int) < (n : Int)) = false := decide_eq_false (by omega)
  have heq : (Value.bool ((n : Int) == (n : Int))) = .bool true := by rw [beq_self_eq_true]
  show Goes Tryz.prog w0 F cs0 _ ⟨5, #[.int .i64 A, .int .i64 B, .int .i64 n, r 3, r 4, r 5, .bool false, .slice (some ⟨b, 0, none⟩) n n, .bool true, .int .i64 i, r 10, r 11, r 12, r 13, r 14, r 15, r 16, r 17, r 18, r 19, r 20, r 21, r 22, r 23, r 24, r 25, r 26, r 27, r 28, r 29, r 30, r 31, r 32, r 33, r 34, r 35, r 36, r 37, r 38, r 39, r 40, r 41, r 42, r 43, r 44, r 45, r 46, r 47, r 48, r 49, r 50, r 51, r 52, r 53, r 54, r 55, r 56, r 57, r 58, r 59], [.code (codeAt Tryz.prog 5 [1, 1, 1, 1, 1, 0, 1, 0, 0]), .inLoop (codeAt Tryz.prog 5 [1, 1, 1, 1, 1, 0, 1, 0, 0]), .inBlock 0, .code (codeAt Tryz.prog 5 [1, 1, 1, 1, 1, 1])], [], .run, .normal, none⟩ [] s [(b, .cells ⟨fl (lx A B) n⟩ 27)]
  refine Goes.seg [8] 100000 [.br false, .fix 55 (.bool (true))] (fr' := ⟨5, #[(.int .i64 (A)), (.int .i64 (B)), (.int .i64 ((↑n : Int))), (r 3), (r 4), (r 5), (.bool (false)), (.slice (some ⟨b, 0, none⟩) (n) (n)), (.bool (true)), (.int .i64 ((↑i : Int))), (r 10), (r 11), (r 12), (r 13), (r 14), (r 15), (r 16), (r 17), (r 18), (r 19), (r 20), (r 21), (r 22), (r 23), (r 24), (r 25), (r 26), (r 27), (r 28), (r 29), (r 30), (r 31), (r 32), (.int .i64 ((↑i : Int))), (.slice (some ⟨b, 0, none⟩) (n) (n)), (.int .i64 ((↑n : Int))), (.bool (decide ((↑i : Int) < (↑n : Int)))), (r 37), (r 38), (r 39), (r 40), (r 41), (r 42), (r 43), (r 44), (r 45), (r 46), (r 47), (r 48), (r 49), (.bool (true)), (.bool (true)), (.slice (some ⟨b, 0, none⟩) (n) (n)), (.int .i64 ((↑n : Int))), (.int .i64 ((↑n : Int))), (.bool (true)), (.bool (true)), (.bool (true)), (r 58), (r 59)], [.inRegion (opsAt Tryz.prog 5 [1, 1, 1, 1, 1, 1, 0]) [8, 9, 10], .code (codeAt Tryz.prog 5 [1, 1, 0, 1, 0, 1])], [], .run, .normal, none⟩) (cs' := []) (s' := s) (L' := [(b, (.cells ⟨fl (lx A B) n⟩ 27))]) (ob := [(.val (.bool ((↑n : Int) == (↑n : Int))) (.bool (true))), (.test (decide ((↑i : Int) < (↑n : Int))) false)]) (by kernel_rfl) (by kernel_rfl) (by repeat first | exact trivial | (refine And.intro (by first | assumption | rfl) ?_)) ?_
  refine Goes.inOrder [.rdo [] [], .rdo [] [], .rdo [] [], .rdo [] [], .rdo [] [], .rdo [] [], .rdo [] [], .rdo [] [], .call [] [] [] 8 (fun _ => (.bool true, [], [])), .rdo [] [], .rdo [] []] 0 rfl rfl rfl rfl (fun ν0 => ⟨[(.int .i64 (A)), (.int .i64 (B)), (.int .i64 ((↑n : Int))), (r 3), (r 4), (r 5), (.bool (true)), (.slice (some ⟨b, 0, none⟩) (n) (n)), (.bool (true)), (.int .i64 ((↑i : Int))), (r 10), (r 11), (r 12), (r 13), (r 14), (r 15), (r 16), (r 17), (r 18), (r 19), (r 20), (r 21), (r 22), (r 23), (r 24), (r 25), (r 26), (r 27), (r 28), (r 29), (r 30), (r 31), (r 32), (.int .i64 ((↑i : Int))), (.slice (some ⟨b, 0, none⟩) (n) (n)), (.int .i64 ((↑n : Int))), (.bool (decide ((↑i : Int) < (↑n : Int)))), (r 37), (r 38), (r 39), (r 40), (r 41), (r 42), (r 43), (r 44), (r 45), (r 46), (r 47), (r 48), (r 49), (.bool (true)), (.bool (true)), (.slice (some ⟨b, 0, none⟩) (n) (n)), (.int .i64 ((↑n : Int))), (.int .i64 ((↑n : Int))), (.bool (true)), (.bool (true)), (.bool (true)), (.bool (true)), (.bool (true))], [some (b, (.cells ⟨fl (lx A B) n⟩ 27))]⟩) (fun ν0 => []) (fun ν0 => [⟨8, [], [], [], (fun _ => (.bool true, [], []))⟩]) (fun ν0 => []) (fun ν0 => by kernel_rfl) (fun ν0 => by kernel_rfl) (fun ν0 => trivial) (fun ν0 => ⟨(fun s' F w g => c_lives w0 sep hsep hsep1 s' F w g), trivial⟩) (fun ν0 => trivial) ?_
  intro ν0 s0
  refine Goes.last [8] 100000 [] (v := (.bool (true))) (s' := s0) (L' := [(b, (.cells ⟨fl (lx A B) n⟩ 27))]) (ob := []) (by kernel_rfl) (by kernel_rfl) trivial ?_
  intro w' g'
  exact hR s0 w' (g'.picked (L' := []) [] rfl rfl)

set_option maxRecDepth 100000 in
/-- FnLinear answers true. -/
theorem c_fnLinear (w0 : World) (sep : Addr) (hsep : w0.cell? ⟨2, 0, none⟩ = some (.slice (some sep) 1 1)) (hsep1 : w0.cell? (sep.add 0) = some (.int .u8 255)) (a b n : Int) (s : Nat) (F : List (Nat × Obj)) (w : World) (g : Good w0 s F w) :
    Calls Tryz.prog 5 #[.int .i64 a, .int .i64 b, .int .i64 n] w fun e w' => e = .returned (.bool true) ∧ ∃ s', Good w0 s' F w' := by
  generalize hAa : a.tmod 1099511627776 = A
  generalize hBb : b.tmod 1099511627776 = B
  have hA : A.natAbs < 1099511627776 := by rw [← hAa, Int.natAbs_tmod]; exact Nat.mod_lt _ (by decide)
  have hB : B.natAbs < 1099511627776 := by rw [← hBb, Int.natAbs_tmod]; exact Nat.mod_lt _ (by decide)
  have hfa : (Value.int .i64 (a.tmod 1099511627776)) = .int .i64 A := by rw [hAa]
  have hfb : (Value.int .i64 (b.tmod 1099511627776)) = .int .i64 B := by rw [hBb]
  by_cases h1 : n > 1000
  · have t1 : decide (n > 1000) = true := decide_eq_true h1
    refine Goes.calls (L := []) (F := F) g fun cs0 => ?_
    refine Goes.seg [8, 12] 100000 [.fix 11 (.int .i64 (A)), .fix 13 (.int .i64 (B)), .br true] (fr' := ⟨5, #[(.int .i64 (A)), (.int .i64 (B)), (.int .i64 (n)), u, u, u, (.bool (false)), u, u, u, (.int .i64 (a)), (.int .i64 (A)), (.int .i64 (b)), (.int .i64 (B)), (.int .i64 (n)), (.bool (decide (n > 1000))), u, u, u, u, u, u, u, u, u, u, u, u, u, u, u, u, u, u, u, u, u, u, u, u, u, u, u, u, u, u, u, u, u, u, u, u, u, u, u, u, u, u, u, u], [.inRegion (opsAt Tryz.prog 5 [1, 1, 0, 1, 0, 0]) [0, 1], .code (codeAt Tryz.prog 5 [1, 1, 0, 1, 0, 1]), .code (codeAt Tryz.prog 5 [1, 1, 1])], [], .run, .normal, none⟩) (cs' := []) (s' := s) (L' := []) (ob := [(.test (decide (n > 1000)) true), (.val (.int .i64 (b.tmod 1099511627776)) (.int .i64 (B))), (.val (.int .i64 (a.tmod 1099511627776)) (.int .i64 (A)))]) (by kernel_rfl) (by kernel_rfl) (by repeat first | exact trivial | (refine And.intro (by first | assumption | rfl) ?_)) ?_
    refine Goes.inOrder [.call [] [] [] 8 (fun _ => (.bool true, [], [])), .rdo [] []] 0 rfl rfl rfl rfl (fun ν0 => ⟨[(.int .i64 (A)), (.int .i64 (B)), (.int .i64 (n)), u, u, u, (.bool (true)), u, u, u, (.int .i64 (a)), (.int .i64 (A)), (.int .i64 (b)), (.int .i64 (B)), (.int .i64 (n)), (.bool (decide (n > 1000))), (.bool (true)), u, u, u, u, u, u, u, u, u, u, u, u, u, u, u, u, u, u, u, u, u, u, u, u, u, u, u, u, u, u, u, u, u, u, u, u, u, u, u, u, u, u, u], []⟩) (fun ν0 => []) (fun ν0 => [⟨8, [], [], [], (fun _ => (.bool true, [], []))⟩]) (fun ν0 => []) (fun ν0 => by kernel_rfl) (fun ν0 => by kernel_rfl) (fun ν0 => trivial) (fun ν0 => ⟨(fun s' F w g => c_lives w0 sep hsep hsep1 s' F w g), trivial⟩) (fun ν0 => trivial) ?_
    intro ν0 s0
    refine Goes.last [8, 12] 100000 [] (v := (.bool (true))) (s' := s0) (L' := []) (ob := []) (by kernel_rfl) (by kernel_rfl) trivial ?_
    intro w' g'
    exact ⟨rfl, s0, g'⟩
  · have t1 : decide (n > 1000) = false := decide_eq_false h1
    by_cases h2 : n < 1
    · have t2 : decide (n < 1) = true := decide_eq_true h2
      have hn := h2
      refine Goes.calls (L := []) (F := F) g fun cs0 => ?_
      refine Goes.seg [8, 12] 100000 [.fix 11 (.int .i64 (A)), .fix 13 (.int .i64 (B)), .br false] (fr' := ⟨5, #[(.int .i64 (A)), (.int .i64 (B)), (.int .i64 (n)), u, u, u, (.bool (false)), u, u, u, (.int .i64 (a)), (.int .i64 (A)), (.int .i64 (b)), (.int .i64 (B)), (.int .i64 (n)), (.bool (decide (n > 1000))), u, u, (.int .i64 (A)), (.float .f64 (FloatKind.f64.nearest A)), (.int .i64 (B)), (.float .f64 (FloatKind.f64.nearest B)), (.int .i64 (n)), u, u, u, u, u, u, u, u, u, u, u, u, u, u, u, u, u, u, u, u, u, u, u, u, u, u, u, u, u, u, u, u, u, u, u, u, u], [.inRegion (opsAt Tryz.prog 5 [1, 1, 1, 0]) [5, 6, 7, 8, 9, 10], .code (codeAt Tryz.prog 5 [1, 1, 1, 1])], [], .run, .normal, none⟩) (cs' := []) (s' := s) (L' := []) (ob := [(.test (decide (n > 1000)) false), (.val (.int .i64 (b.tmod 1099511627776)) (.int .i64 (B))), (.val (.int .i64 (a.tmod 1099511627776)) (.int .i64 (A)))]) (by kernel_rfl) (by kernel_rfl) (by repeat first | exact trivial | (refine And.intro (by first | assumption | rfl) ?_)) ?_
      refine Goes.inOrder [.rdo [] [], .rdo [] [], .rdo [] [], .rdo [] [], .rdo [] [], .call [] [] [] 12 (fun _ => (.tuple #[.slice none 0 0, .bool false], [], [])), .rdo [] [], .rdo [] [], .rdo [] [], .rdo [] [], .rdo [] []] 0 rfl rfl rfl rfl (fun ν0 => ⟨[(.int .i64 (A)), (.int .i64 (B)), (.int .i64 (n)), u, u, u, (.bool (false)), (.slice none (0) (0)), (.bool (false)), u, (.int .i64 (a)), (.int .i64 (A)), (.int .i64 (b)), (.int .i64 (B)), (.int .i64 (n)), (.bool (decide (n > 1000))), u, (.tuple #[(.slice none (0) (0)), (.bool (false))]), (.int .i64 (A)), (.float .f64 (FloatKind.f64.nearest A)), (.int .i64 (B)), (.float .f64 (FloatKind.f64.nearest B)), (.int .i64 (n)), (.tuple #[(.slice none (0) (0)), (.bool (false))]), (.slice none (0) (0)), (.bool (false)), u, u, u, u, u, u, u, u, u, u, u, u, u, u, u, u, u, u, u, u, u, u, u, u, u, u, u, u, u, u, u, u, u, u], []⟩) (fun ν0 => []) (fun ν0 => [⟨12, [(.float .f64 (FloatKind.f64.nearest A)), (.float .f64 (FloatKind.f64.nearest B)), (.int .i64 (n))], [], [], (fun _ => (.tuple #[.slice none 0 0, .bool false], [], []))⟩]) (fun ν0 => []) (fun ν0 => by kernel_rfl) (fun ν0 => by kernel_rfl) (fun ν0 => trivial) (fun ν0 => ⟨(fun s' F w g => c_implLinear_none w0 _ _ n hn s' F w g), trivial⟩) (fun ν0 => trivial) ?_
      intro ν0 s0
      refine Goes.seg [8, 12] 100000 [.br true] (fr' := ⟨5, #[(.int .i64 (A)), (.int .i64 (B)), (.int .i64 (n)), u, u, u, (.bool (false)), (.slice none (0) (0)), (.bool (false)), u, (.int .i64 (a)), (.int .i64 (A)), (.int .i64 (b)), (.int .i64 (B)), (.int .i64 (n)), (.bool (decide (n > 1000))), u, (.tuple #[(.slice none (0) (0)), (.bool (false))]), (.int .i64 (A)), (.float .f64 (FloatKind.f64.nearest A)), (.int .i64 (B)), (.float .f64 (FloatKind.f64.nearest B)), (.int .i64 (n)), (.tuple #[(.slice none (0) (0)), (.bool (false))]), (.slice none (0) (0)), (.bool (false)), (.int .i64 (n)), (.bool (decide (n < 1))), (.bool (false)), (.bool (true)), (.bool (true)), u, u, u, u, u, u, u, u, u, u, u, u, u, u, u, u, u, u, u, u, u, u, u, u, u, u, u, u, u], [.inRegion (opsAt Tryz.prog 5 [1, 1, 1, 1, 0, 1, 0, 0]) [3, 4, 5], .code (codeAt Tryz.prog 5 [1, 1, 0, 1, 0, 1]), .code (codeAt Tryz.prog 5 [1, 1, 1, 1, 1])], [], .run, .normal, none⟩) (cs' := []) (s' := s0) (L' := []) (ob := [(.test (decide (n < 1)) true)]) (by kernel_rfl) (by kernel_rfl) (by repeat first | exact trivial | (refine And.intro (by first | assumption | rfl) ?_)) ?_
      refine Goes.inOrder [.rdo [] [], .rdo [] [], .rdo [] [], .call [] [] [] 8 (fun _ => (.bool true, [], [])), .rdo [] [], .rdo [] []] 0 rfl rfl rfl rfl (fun ν1 => ⟨[(.int .i64 (A)), (.int .i64 (B)), (.int .i64 (n)), u, u, u, (.bool (true)), (.slice none (0) (0)), (.bool (false)), u, (.int .i64 (a)), (.int .i64 (A)), (.int .i64 (b)), (.int .i64 (B)), (.int .i64 (n)), (.bool (decide (n > 1000))), u, (.tuple #[(.slice none (0) (0)), (.bool (false))]), (.int .i64 (A)), (.float .f64 (FloatKind.f64.nearest A)), (.int .i64 (B)), (.float .f64 (FloatKind.f64.nearest B)), (.int .i64 (n)), (.tuple #[(.slice none (0) (0)), (.bool (false))]), (.slice none (0) (0)), (.bool (false)), (.int .i64 (n)), (.bool (decide (n < 1))), (.bool (false)), (.bool (true)), (.bool (true)), (.bool (true)), (.bool (true)), u, u, u, u, u, u, u, u, u, u, u, u, u, u, u, u, u, u, u, u, u, u, u, u, u, u, u], []⟩) (fun ν1 => []) (fun ν1 => [⟨8, [], [], [], (fun _ => (.bool true, [], []))⟩]) (fun ν1 => []) (fun ν1 => by kernel_rfl) (fun ν1 => by kernel_rfl) (fun ν1 => trivial) (fun ν1 => ⟨(fun s' F w g => c_lives w0 sep hsep hsep1 s' F w g), trivial⟩) (fun ν1 => trivial) ?_
      intro ν1 s1
      refine Goes.last [8, 12] 100000 [] (v := (.bool (true))) (s' := s1) (L' := []) (ob := []) (by kernel_rfl) (by kernel_rfl) trivial ?_
      intro w' g'
      exact ⟨rfl, s1, g'⟩
    · obtain ⟨n, rfl⟩ : ∃ m : Nat, n = (m : Int) := ⟨n.toNat, by omega⟩
      have t2 : decide ((n : Int) < 1) = false := decide_eq_false h2
      have h1' : 1 ≤ n := by omega
      have hn1 : n ≤ 1000 := by omega
      have hn2 : n ≤ 100000 := by omega
      have hadd := lx_add hA hB hn1
      refine Goes.calls (L := []) (F := F) g fun cs0 => ?_
      refine Goes.seg [8, 12] 100000 [.fix 11 (.int .i64 (A)), .fix 13 (.int .i64 (B)), .br false] (fr' := ⟨5, #[(.int .i64 (A)), (.int .i64 (B)), (.int .i64 ((↑n : Int))), u, u, u, (.bool (false)), u, u, u, (.int .i64 (a)), (.int .i64 (A)), (.int .i64 (b)), (.int .i64 (B)), (.int .i64 ((↑n : Int))), (.bool (decide ((↑n : Int) > 1000))), u, u, (.int .i64 (A)), (.float .f64 (FloatKind.f64.nearest A)), (.int .i64 (B)), (.float .f64 (FloatKind.f64.nearest B)), (.int .i64 ((↑n : Int))), u, u, u, u, u, u, u, u, u, u, u, u, u, u, u, u, u, u, u, u, u, u, u, u, u, u, u, u, u, u, u, u, u, u, u, u, u], [.inRegion (opsAt Tryz.prog 5 [1, 1, 1, 0]) [5, 6, 7, 8, 9, 10], .code (codeAt Tryz.prog 5 [1, 1, 1, 1])], [], .run, .normal, none⟩) (cs' := []) (s' := s) (L' := []) (ob := [(.test (decide ((↑n : Int) > 1000)) false), (.val (.int .i64 (b.tmod 1099511627776)) (.int .i64 (B))), (.val (.int .i64 (a.tmod 1099511627776)) (.int .i64 (A)))]) (by kernel_rfl) (by kernel_rfl) (by repeat first | exact trivial | (refine And.intro (by first | assumption | rfl) ?_)) ?_
      refine Goes.inOrder [.rdo [] [], .rdo [] [], .rdo [] [], .rdo [] [], .rdo [] [], .call [] [] [0] 12 (fun v => (.tuple #[.slice (some ⟨v.x, 0, none⟩) n n, .bool true], [], [(v.x, .cells ⟨fl (lx A B) n⟩ 27)])), .rdo [] [], .rdo [] [], .rdo [] [], .rdo [] [], .rdo [] []] 1 rfl rfl rfl rfl (fun ν0 => ⟨[(.int .i64 (A)), (.int .i64 (B)), (.int .i64 ((↑n : Int))), u, u, u, (.bool (false)), (.slice (some ⟨(ν0 5).x, 0, none⟩) (n) (n)), (.bool (true)), u, (.int .i64 (a)), (.int .i64 (A)), (.int .i64 (b)), (.int .i64 (B)), (.int .i64 ((↑n : Int))), (.bool (decide ((↑n : Int) > 1000))), u, (.tuple #[(.slice (some ⟨(ν0 5).x, 0, none⟩) (n) (n)), (.bool (true))]), (.int .i64 (A)), (.float .f64 (FloatKind.f64.nearest A)), (.int .i64 (B)), (.float .f64 (FloatKind.f64.nearest B)), (.int .i64 ((↑n : Int))), (.tuple #[(.slice (some ⟨(ν0 5).x, 0, none⟩) (n) (n)), (.bool (true))]), (.slice (some ⟨(ν0 5).x, 0, none⟩) (n) (n)), (.bool (true)), u, u, u, u, u, u, u, u, u, u, u, u, u, u, u, u, u, u, u, u, u, u, u, u, u, u, u, u, u, u, u, u, u, u], [some ((ν0 5).x, (.cells ⟨fl (lx A B) n⟩ 27))]⟩) (fun ν0 => []) (fun ν0 => [⟨12, [(.float .f64 (FloatKind.f64.nearest A)), (.float .f64 (FloatKind.f64.nearest B)), (.int .i64 ((↑n : Int)))], [], [], (fun v => (.tuple #[.slice (some ⟨v.x, 0, none⟩) n n, .bool true], [], [(v.x, .cells ⟨fl (lx A B) n⟩ 27)]))⟩]) (fun ν0 => []) (fun ν0 => by kernel_rfl) (fun ν0 => by kernel_rfl) (fun ν0 => trivial) (fun ν0 => ⟨(fun s' F w g => c_implLinear w0 (lx A B) _ n h1' hn2 hadd s' F w g), trivial⟩) (fun ν0 => trivial) ?_
      intro ν0 s0
      refine Goes.seg [8, 12] 100000 [.br false] (fr' := ⟨5, #[(.int .i64 (A)), (.int .i64 (B)), (.int .i64 ((↑n : Int))), u, u, u, (.bool (false)), (.slice (some ⟨(ν0 5).x, 0, none⟩) (n) (n)), (.bool (true)), (.int .i64 (0)), (.int .i64 (a)), (.int .i64 (A)), (.int .i64 (b)), (.int .i64 (B)), (.int .i64 ((↑n : Int))), (.bool (decide ((↑n : Int) > 1000))), u, (.tuple #[(.slice (some ⟨(ν0 5).x, 0, none⟩) (n) (n)), (.bool (true))]), (.int .i64 (A)), (.float .f64 (FloatKind.f64.nearest A)), (.int .i64 (B)), (.float .f64 (FloatKind.f64.nearest B)), (.int .i64 ((↑n : Int))), (.tuple #[(.slice (some ⟨(ν0 5).x, 0, none⟩) (n) (n)), (.bool (true))]), (.slice (some ⟨(ν0 5).x, 0, none⟩) (n) (n)), (.bool (true)), (.int .i64 ((↑n : Int))), (.bool (decide ((↑n : Int) < 1))), u, u, u, u, u, u, u, u, u, u, u, u, u, u, u, u, u, u, u, u, u, u, u, u, u, u, u, u, u, u, u, u], [.code (codeAt Tryz.prog 5 [1, 1, 1, 1, 1, 0, 1, 0]), .inBlock 0, .code (codeAt Tryz.prog 5 [1, 1, 1, 1, 1, 1])], [], .run, .normal, none⟩) (cs' := []) (s' := s0) (L' := [((ν0 5).x, (.cells ⟨fl (lx A B) n⟩ 27))]) (ob := [(.test (decide ((↑n : Int) < 1)) false)]) (by kernel_rfl) (by kernel_rfl) (by repeat first | exact trivial | (refine And.intro (by first | assumption | rfl) ?_)) ?_
      refine Goes.first _ _ rfl rfl rfl ?_
      have key := Goes.loop (P := Tryz.prog) (w0 := w0) (F := F) (cs0 := cs0) (Φ := Ends Tryz.prog 5 (fun e w' => e = .returned (.bool true) ∧ ∃ s', Good w0 s' F w') cs0) (finS (lx A B) A B n (ν0 5).x) (fun j => n - j.i) (fun j ih => by
        by_cases hi : j.i < n
        · exact fnLinear_step w0 A B n (ν0 5).x hA hB hn1 F cs0 _ j hi fun k hk => ih k (by show n - k.i < n - j.i; omega)
        · exact fnLinear_end w0 sep hsep hsep1 A B n (ν0 5).x F cs0 _ (fun s1 w' g' => ⟨rfl, s1, g'⟩) j hi)
      have key0 := key ⟨0, Nat.zero_le n, fun j => match j with | 10 => .int .i64 a | 11 => .int .i64 A | 12 => .int .i64 b | 13 => .int .i64 B | 14 => .int .i64 n | 15 => .bool (decide ((n : Int) > 1000)) | 17 => .tuple #[.slice (some ⟨(ν0 5).x, 0, none⟩) n n, .bool true] | 18 => .int .i64 A | 19 => .float .f64 (FloatKind.f64.nearest A) | 20 => .int .i64 B | 21 => .float .f64 (FloatKind.f64.nearest B) | 22 => .int .i64 n | 23 => .tuple #[.slice (some ⟨(ν0 5).x, 0, none⟩) n n, .bool true] | 24 => .slice (some ⟨(ν0 5).x, 0, none⟩) n n | 25 => .bool true | 26 => .int .i64 n | 27 => .bool (decide ((n : Int) < 1)) | _ => u, s0⟩
      exact key0

end Go.Sx
