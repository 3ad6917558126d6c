/- The cells of a histogram's options; the contracts of LinearBuckets and impl.Linear: the bounds are the sums, one after another. For a count from 1 on whose sums are told. -/
import Derived.Test.YthknahhbbhbgoaaGreatDoorWFq
import Derived.Test.YthknahhbbhbgoaaGreatDoorWDesc
import Derived.Test.YthknahhbbhbgoaaGreatDoorSx16
import Derived.Test.YthknahhbbhbgoaaGreatDoorSx17
import Derived.Test.YthknahhbbhbgoaaGreatDoorFl1
namespace Go.Sx
open Go Go.Proofs

def clkObj (k : Nat) (at_ : Int) : Nat × Obj := (k, .cells #[.int .i64 at_, .slice none 0 0] 125)
def optVal (k b0 n c : Nat) : Value :=
  .agg #[.string ⟨#[]⟩, .string ⟨#[]⟩, .string ⟨#[104]⟩, .string ⟨#[]⟩, .string ⟨#[]⟩, .map none, .slice (some ⟨b0, 0, none⟩) n c, .float .f64 0, .float .f64 0, .int .u32 0, .int .i64 0, .float .f64 0, .int .i64 0, .int .i64 0, .func (.func 38) #[.pointer (some ⟨k, 0, none⟩)] #[], .func (.func 39) #[.pointer (some ⟨k, 0, none⟩)] #[]]
def desObj (d d1 d2 : Nat) : List (Nat × Obj) :=
  [(d, .cells #[.string ⟨#[104]⟩, .string ⟨#[]⟩, .string ⟨#[]⟩, .slice (some ⟨d2, 0, none⟩) 0 0, .pointer (some ⟨d1, 0, none⟩), .string ⟨#[104, 255]⟩, .string ⟨#[255, 255]⟩, .nilIface] 183), (d1, .cells #[.slice none 0 0, .map none] 180), (d2, .cells #[] 185)]

def optVal0 (b0 n c : Nat) : Value :=
  .agg #[.string ⟨#[]⟩, .string ⟨#[]⟩, .string ⟨#[104]⟩, .string ⟨#[]⟩, .string ⟨#[]⟩, .map none, .slice (some ⟨b0, 0, none⟩) n c, .float .f64 0, .float .f64 0, .int .u32 0, .int .i64 0, .float .f64 0, .int .i64 0, .int .i64 0, .nilFunc, .nilFunc]

def histZero : Value := .agg #[.int .u64 0, .float .f64 0, .slice none 0 0, .int .i64 0, .bool false, .int .i32 0, .float .f64 0, .int .u64 0, .slice none 0 0, .slice none 0 0, .slice none 0 0, .slice none 0 0, .slice none 0 0]

theorem Good.start (w0 : World) : Good w0 w0.heap.size [] w0 := ⟨rfl, Nat.le_refl _, fun _ _ => rfl, by simp, by simp, rfl, rfl, rfl⟩

end Go.Sx

namespace Go.Sx
open Go Go.Proofs Go.Fl
open Go.Lib (strCells)

/-- n numbers. -/
def fl (x : Nat → Nat) (n : Nat) : List Value := (List.range n).map fun i => .float .f64 (x i)

theorem fl_succ (x : Nat → Nat) (n : Nat) : fl x (n + 1) = fl x n ++ [.float .f64 (x n)] := by
  simp [fl, List.range_succ]
theorem fl_length (x : Nat → Nat) (n : Nat) : (fl x n).length = n := by simp [fl]

theorem set_mid (l : List Value) (v w : Value) (m : Nat) : (l ++ List.replicate (m + 1) w).set l.length v = (l ++ [v]) ++ List.replicate m w := by
  induction l with
  | nil => simp [List.replicate_succ]
  | cons a l ih => simp [ih]

theorem fl_put (x : Nat → Nat) (n i : Nat) (hi : i < n) (z : Value) : (0 + i) < (⟨fl x i ++ List.replicate (n - i) z⟩ : Array Value).size ∧
    (⟨fl x i ++ List.replicate (n - i) z⟩ : Array Value).setIfInBounds (0 + i) (.float .f64 (x i)) = ⟨fl x (i + 1) ++ List.replicate (n - (i + 1)) z⟩ := by
  constructor
  · simp [fl_length]; omega
  · apply Array.toList_inj.1
    simp only [Array.toList_setIfInBounds]
    have h := set_mid (fl x i) (.float .f64 (x i)) z (n - (i + 1))
    rw [fl_length, show n - (i + 1) + 1 = n - i by omega, ← fl_succ] at h
    rw [Nat.zero_add]
    exact h

theorem wrap_succ {i n : Nat} (h : i < n) (hn : n ≤ 4611686018427387904) : IntKind.i64.wrap ((i : Int) + 1) = ((i + 1 : Nat) : Int) := by
  rw [IntKind.wrap_i64]
  omega

structure LI (n : Nat) where
  i : Nat
  h : i ≤ n
  r : Nat → Value
  s : Nat

noncomputable def linS (x : Nat → Nat) (y n b : Nat) (j : LI n) : Frame × List Frame × Nat × List (Nat × Obj) :=
  (⟨26, #[.float .f64 (x j.i), .float .f64 y, .int .i64 n, j.r 3, j.r 4, j.r 5, .slice none 0 0, .slice (some ⟨b, 0, none⟩) n n, j.r 8, j.r 9, j.r 10, j.r 11, j.r 12, j.r 13, .slice (some ⟨b, 0, none⟩) n n, .int .i64 n, .int .i64 j.i, j.r 17, j.r 18, j.r 19, j.r 20, j.r 21, j.r 22, j.r 23, j.r 24, j.r 25, j.r 26, j.r 27],
    [.code (codeAt Tryz.prog 26 [1, 1, 1, 0, 1, 0, 0]), .inLoop (codeAt Tryz.prog 26 [1, 1, 1, 0, 1, 0, 0]), .inBlock 0, .code (codeAt Tryz.prog 26 [1, 1, 1, 1])], [], .run, .normal, none⟩, [], j.s, [(b, .cells ⟨fl x j.i ++ List.replicate (n - j.i) (Value.float FloatKind.f64 0)⟩ 27)])

set_option maxRecDepth 100000 in
theorem linear_step (w0 : World) (x : Nat → Nat) (y n b : Nat) (hn2 : n ≤ 1000000) (hadd : ∀ i, i < n → Ieee.double.add (x i) y = some (x (i + 1))) (F : List (Nat × Obj)) (cs0 : List Frame) (Φ : Machine → Prop)
    (j : LI n) (hi : j.i < n) (ih : ∀ k : LI n, k.i = j.i + 1 → Goes Tryz.prog w0 F cs0 Φ (linS x y n b k).1 (linS x y n b k).2.1 (linS x y n b k).2.2.1 (linS x y n b k).2.2.2) :
    Goes Tryz.prog w0 F cs0 Φ (linS x y n b j).1 (linS x y n b j).2.1 (linS x y n b j).2.2.1 (linS x y n b j).2.2.2 := by
  obtain ⟨i, hin, r, s⟩ := j
  simp only at hi ih
  have hlt0 : decide ((i : Int) < (n : Int)) = true := decide_eq_true (by omega)
  have hput := fl_put x n i hi (.float .f64 0)
  have hz := hadd i hi
  show Goes Tryz.prog w0 F cs0 Φ ⟨26, #[.float .f64 (x i), .float .f64 y, .int .i64 n, r 3, r 4, r 5, .slice none 0 0, .slice (some ⟨b, 0, none⟩) n n, r 8, r 9, r 10, r 11, r 12, r 13, .slice (some ⟨b, 0, none⟩) n n, .int .i64 n, .int .i64 i, r 17, r 18, r 19, r 20, r 21, r 22, r 23, r 24, r 25, r 26, r 27],
    [.code (codeAt Tryz.prog 26 [1, 1, 1, 0, 1, 0, 0]), .inLoop (codeAt Tryz.prog 26 [1, 1, 1, 0, 1, 0, 0]), .inBlock 0, .code (codeAt Tryz.prog 26 [1, 1, 1, 1])], [], .run, .normal, none⟩ [] s [(b, .cells ⟨fl x i ++ List.replicate (n - i) (Value.float FloatKind.f64 0)⟩ 27)]
  refine Goes.seg [] 19 [.br true] (fr' := ⟨26, #[(.float .f64 (x i)), (.float .f64 (y)), (.int .i64 ((↑n : Int))), (r 3), (r 4), (r 5), (.slice none (0) (0)), (.slice (some ⟨b, 0, none⟩) (n) (n)), (.int .i64 ((↑i : Int))), (r 9), (r 10), (r 11), (r 12), (r 13), (.slice (some ⟨b, 0, none⟩) (n) (n)), (.int .i64 ((↑n : Int))), (.int .i64 ((↑i : Int))), (.bool (decide ((↑i : Int) < (↑n : Int)))), (.int .i64 ((↑i : Int))), (.slice (some ⟨b, 0, none⟩) (n) (n)), (.int .i64 ((↑i : Int))), (.float .f64 (x i)), (r 22), (r 23), (r 24), (r 25), (r 26), (r 27)], [.inRegion (opsAt Tryz.prog 26 [1, 1, 1, 0, 1, 0, 0, 1, 1, 0, 0, 1, 0]) [3, 4], .code (codeAt Tryz.prog 26 [1, 1, 1, 0, 1, 0, 0, 1, 1, 0, 0, 1, 1]), .inBlock 1, .code (codeAt Tryz.prog 26 [1, 1, 1, 0, 1, 0, 0, 1, 1, 1]), .inLoop (codeAt Tryz.prog 26 [1, 1, 1, 0, 1, 0, 0]), .inBlock 0, .code (codeAt Tryz.prog 26 [1, 1, 1, 1])], [], .run, .normal, none⟩) (cs' := []) (s' := s) (L' := [(b, (.cells ⟨fl x i ++ List.replicate (n - i) (Value.float FloatKind.f64 0)⟩ 27))]) (ob := [(.test (decide ((↑i : Int) < (↑n : Int))) true)]) (by kernel_rfl) (by kernel_rfl) ⟨hlt0, trivial⟩ ?_
  refine Goes.inOrder [.rdo [] [], .rdo [] [], .rdo [] [], .hand [] [] [] (fun _ => (.pointer (some ⟨b, i * 1, none⟩), [], [])), .mem [0] [] [.stc 0 ⟨fl x (i + 1) ++ List.replicate (n - (i + 1)) (Value.float FloatKind.f64 0)⟩]] 0 rfl rfl rfl rfl (fun ν0 => ⟨[(.float .f64 (x i)), (.float .f64 (y)), (.int .i64 ((↑n : Int))), (r 3), (r 4), (r 5), (.slice none (0) (0)), (.slice (some ⟨b, 0, none⟩) (n) (n)), (.int .i64 ((↑i : Int))), (r 9), (r 10), (r 11), (r 12), (r 13), (.slice (some ⟨b, 0, none⟩) (n) (n)), (.int .i64 ((↑n : Int))), (.int .i64 ((↑i : Int))), (.bool (decide ((↑i : Int) < (↑n : Int)))), (.int .i64 ((↑i : Int))), (.slice (some ⟨b, 0, none⟩) (n) (n)), (.int .i64 ((↑i : Int))), (.float .f64 (x i)), (.pointer (some ⟨b, (0 + i), none⟩)), (r 23), (r 24), (r 25), (r 26), (r 27)], [some (b, (.cells ⟨fl x (i + 1) ++ List.replicate (n - (i + 1)) (Value.float FloatKind.f64 0)⟩ 27))]⟩) (fun ν0 => [(.put (⟨fl x i ++ List.replicate (n - i) (Value.float FloatKind.f64 0)⟩) ((0 + i)) (.float .f64 (x i)) (⟨fl x (i + 1) ++ List.replicate (n - (i + 1)) (Value.float FloatKind.f64 0)⟩))]) (fun ν0 => []) (fun ν0 => [⟨(indexSem 22 (.slice (some ⟨b, 0, none⟩) n n) (.int .i64 i)), [], [], (fun _ => (.pointer (some ⟨b, i * 1, none⟩), [], []))⟩]) (fun ν0 => by kernel_rfl) (fun ν0 => by kernel_rfl) (fun ν0 => ⟨hput, trivial⟩) (fun ν0 => trivial) (fun ν0 => ⟨(ho_index 22 27 1 (by kernel_rfl) (by kernel_rfl) b n n i hi), trivial⟩) ?_
  intro ν0 s0
  refine Goes.seg [] 3 [] (fr' := ⟨26, #[(.float .f64 (x i)), (.float .f64 (y)), (.int .i64 ((↑n : Int))), (r 3), (r 4), (r 5), (.slice none (0) (0)), (.slice (some ⟨b, 0, none⟩) (n) (n)), (.int .i64 ((↑i : Int))), (r 9), (r 10), (r 11), (r 12), (r 13), (.slice (some ⟨b, 0, none⟩) (n) (n)), (.int .i64 ((↑n : Int))), (.int .i64 ((↑i : Int))), (.bool (decide ((↑i : Int) < (↑n : Int)))), (.int .i64 ((↑i : Int))), (.slice (some ⟨b, 0, none⟩) (n) (n)), (.int .i64 ((↑i : Int))), (.float .f64 (x i)), (.pointer (some ⟨b, (0 + i), none⟩)), (.float .f64 (x i)), (.float .f64 (y)), (r 25), (r 26), (r 27)], [.inRegion (opsAt Tryz.prog 26 [1, 1, 1, 0, 1, 0, 0, 1, 1, 0, 0, 1, 1]) [2, 3], .inBlock 1, .code (codeAt Tryz.prog 26 [1, 1, 1, 0, 1, 0, 0, 1, 1, 1]), .inLoop (codeAt Tryz.prog 26 [1, 1, 1, 0, 1, 0, 0]), .inBlock 0, .code (codeAt Tryz.prog 26 [1, 1, 1, 1])], [], .run, .normal, none⟩) (cs' := []) (s' := s0) (L' := [(b, (.cells ⟨fl x (i + 1) ++ List.replicate (n - (i + 1)) (Value.float FloatKind.f64 0)⟩ 27))]) (ob := []) (by kernel_rfl) (by kernel_rfl) trivial ?_
  refine Goes.inOrder [.rdo [] [], .rdo [] [], .hand [] [] [] (fun _ => (.float .f64 (x (i + 1)), [], [])), .rdo [] []] 0 rfl rfl rfl rfl (fun ν1 => ⟨[(.float .f64 (x (i + 1))), (.float .f64 (y)), (.int .i64 ((↑n : Int))), (r 3), (r 4), (r 5), (.slice none (0) (0)), (.slice (some ⟨b, 0, none⟩) (n) (n)), (.int .i64 ((↑i : Int))), (r 9), (r 10), (r 11), (r 12), (r 13), (.slice (some ⟨b, 0, none⟩) (n) (n)), (.int .i64 ((↑n : Int))), (.int .i64 ((↑i : Int))), (.bool (decide ((↑i : Int) < (↑n : Int)))), (.int .i64 ((↑i : Int))), (.slice (some ⟨b, 0, none⟩) (n) (n)), (.int .i64 ((↑i : Int))), (.float .f64 (x i)), (.pointer (some ⟨b, (0 + i), none⟩)), (.float .f64 (x i)), (.float .f64 (y)), (.float .f64 (x (i + 1))), (r 26), (r 27)], [some (b, (.cells ⟨fl x (i + 1) ++ List.replicate (n - (i + 1)) (Value.float FloatKind.f64 0)⟩ 27))]⟩) (fun ν1 => []) (fun ν1 => []) (fun ν1 => [⟨(arithSem .add 27 (.tmp 23) (.tmp 24) (.float .f64 (x i)) (.float .f64 y)), [], [], (fun _ => (.float .f64 (x (i + 1)), [], []))⟩]) (fun ν1 => by kernel_rfl) (fun ν1 => by kernel_rfl) (fun ν1 => trivial) (fun ν1 => trivial) (fun ν1 => ⟨(ho_add 27 _ _ _ _ _ hz), trivial⟩) ?_
  intro ν1 s1
  refine Goes.seg [] 100000 [] (fr' := ⟨26, #[(.float .f64 (x (i + 1))), (.float .f64 (y)), (.int .i64 ((↑n : Int))), (r 3), (r 4), (r 5), (.slice none (0) (0)), (.slice (some ⟨b, 0, none⟩) (n) (n)), (.int .i64 ((↑i : Int))), (r 9), (r 10), (r 11), (r 12), (r 13), (.slice (some ⟨b, 0, none⟩) (n) (n)), (.int .i64 ((↑n : Int))), (.int .i64 (IntKind.i64.wrap ((↑i : Int) + 1))), (.bool (decide ((↑i : Int) < (↑n : Int)))), (.int .i64 ((↑i : Int))), (.slice (some ⟨b, 0, none⟩) (n) (n)), (.int .i64 ((↑i : Int))), (.float .f64 (x i)), (.pointer (some ⟨b, (0 + i), none⟩)), (.float .f64 (x i)), (.float .f64 (y)), (.float .f64 (x (i + 1))), (.int .i64 (IntKind.i64.wrap ((↑i : Int) + 1))), (r 27)], [.inLoop (codeAt Tryz.prog 26 [1, 1, 1, 0, 1, 0, 0]), .inBlock 0, .code (codeAt Tryz.prog 26 [1, 1, 1, 1])], [], .run, .normal, none⟩) (cs' := []) (s' := s1) (L' := [(b, (.cells ⟨fl x (i + 1) ++ List.replicate (n - (i + 1)) (Value.float FloatKind.f64 0)⟩ 27))]) (ob := []) (by kernel_rfl) (by kernel_rfl) trivial ?_
  rw [wrap_succ hi (by omega)]
  have key := ih ⟨i + 1, hi, fun j => match j with | 8 => .int .i64 i | 17 => .bool (decide ((i : Int) < (n : Int))) | 18 => .int .i64 i | 19 => .slice (some ⟨b, 0, none⟩) n n | 20 => .int .i64 i | 21 => .float .f64 (x i) | 22 => .pointer (some ⟨b, 0 + i, none⟩) | 23 => .float .f64 (x i) | 24 => .float .f64 y | 25 => .float .f64 (x (i + 1)) | 26 => .int .i64 ((i + 1 : Nat) : Int) | j => r j, s1⟩ rfl
  exact Goes.again _ _ rfl rfl rfl key

set_option maxRecDepth 100000 in
theorem linear_end (w0 : World) (x : Nat → Nat) (y n b : Nat) (F : List (Nat × Obj)) (cs0 : List Frame) (R : Ending → World → Prop)
    (hR : ∀ s w', Good w0 s ([(b, .cells ⟨fl x n⟩ 27)] ++ F) w' → R (.returned (.slice (some ⟨b, 0, none⟩) n n)) w')
    (j : LI n) (hi : ¬ j.i < n) :
    Goes Tryz.prog w0 F cs0 (Ends Tryz.prog 26 R cs0) (linS x y n b j).1 (linS x y n b j).2.1 (linS x y n b j).2.2.1 (linS x y n b j).2.2.2 := by
  obtain ⟨i, hin, r, s⟩ := j
  simp only at hi
  have hlt0 : decide ((i : Int) < (n : Int)) = false := decide_eq_false (by omega)
  show Goes Tryz.prog w0 F cs0 _ ⟨26, #[.float .f64 (x i), .float .f64 y, .int .i64 n, r 3, r 4, r 5, .slice none 0 0, .slice (some ⟨b, 0, none⟩) n n, r 8, r 9, r 10, r 11, r 12, r 13, .slice (some ⟨b, 0, none⟩) n n, .int .i64 n, .int .i64 i, r 17, r 18, r 19, r 20, r 21, r 22, r 23, r 24, r 25, r 26, r 27],
    [.code (codeAt Tryz.prog 26 [1, 1, 1, 0, 1, 0, 0]), .inLoop (codeAt Tryz.prog 26 [1, 1, 1, 0, 1, 0, 0]), .inBlock 0, .code (codeAt Tryz.prog 26 [1, 1, 1, 1])], [], .run, .normal, none⟩ [] s [(b, .cells ⟨fl x i ++ List.replicate (n - i) (Value.float FloatKind.f64 0)⟩ 27)]
  refine Goes.last [] 100000 [.br false] (v := (.slice (some ⟨b, 0, none⟩) (n) (n))) (s' := s) (L' := [(b, (.cells ⟨fl x i ++ List.replicate (n - i) (Value.float FloatKind.f64 0)⟩ 27))]) (ob := [(.test (decide ((↑i : Int) < (↑n : Int))) false)]) (by kernel_rfl) (by kernel_rfl) ⟨hlt0, trivial⟩ ?_
  intro w' g'
  have e : i = n := by omega
  subst e
  rw [Nat.sub_self, List.replicate_zero, List.append_nil] at g'
  exact hR s w' g'

set_option maxRecDepth 100000 in
/-- Linear buckets: the numbers x 0, x 1, .., each the sum of the one before it and the width. -/
theorem c_linear (w0 : World) (x : Nat → Nat) (y n : Nat) (h1 : 1 ≤ n) (hn2 : n ≤ 1000000) (hadd : ∀ i, i < n → Ieee.double.add (x i) y = some (x (i + 1))) (s : Nat) (F : List (Nat × Obj)) (w : World) (g : Good w0 s F w) :
    Calls Tryz.prog 26 #[.float .f64 (x 0), .float .f64 y, .int .i64 n] w fun e w' => ∃ v : PU, ∃ s', v.n = s ∧ e = .returned (.slice (some ⟨v.x, 0, none⟩) n n) ∧ Good w0 s' ([(v.x, .cells ⟨fl x n⟩ 27)] ++ F) w' := by
  have hlt0 : decide ((n : Int) < 1) = false := decide_eq_false (by omega)
  refine Goes.calls (L := []) (F := F) g fun cs0 => ?_
  refine Goes.seg [] 15 [.br false] (fr' := ⟨26, #[(.float .f64 (x 0)), (.float .f64 (y)), (.int .i64 ((↑n : Int))), u, u, u, (.slice none (0) (0)), u, u, (.int .i64 ((↑n : Int))), (.bool (decide ((↑n : Int) < 1))), u, (.int .i64 ((↑n : Int))), u, u, u, u, u, u, u, u, u, u, u, u, u, u, u], [.inRegion (opsAt Tryz.prog 26 [1, 1, 0]) [1, 2], .code (codeAt Tryz.prog 26 [1, 1, 1])], [], .run, .normal, none⟩) (cs' := []) (s' := s) (L' := []) (ob := [(.test (decide ((↑n : Int) < 1)) false)]) (by kernel_rfl) (by kernel_rfl) ⟨hlt0, trivial⟩ ?_
  refine Goes.inOrder [.rdo [] [], .hand [] [] [0] (fun u => (.slice (some ⟨u.n, 0, none⟩) n n, [], [(u.n, .cells ⟨List.replicate n (Value.float FloatKind.f64 0)⟩ 27)])), .rdo [] []] 1 rfl rfl rfl rfl (fun ν0 => ⟨[(.float .f64 (x 0)), (.float .f64 (y)), (.int .i64 ((↑n : Int))), u, u, u, (.slice none (0) (0)), (.slice (some ⟨(ν0 1).n, 0, none⟩) (n) (n)), u, (.int .i64 ((↑n : Int))), (.bool (decide ((↑n : Int) < 1))), u, (.int .i64 ((↑n : Int))), (.slice (some ⟨(ν0 1).n, 0, none⟩) (n) (n)), u, u, u, u, u, u, u, u, u, u, u, u, u, u], [some ((ν0 1).n, (.cells ⟨List.replicate n (Value.float FloatKind.f64 0)⟩ 27))]⟩) (fun ν0 => []) (fun ν0 => []) (fun ν0 => [⟨(makeSem 22 n), [], [], (fun u => (.slice (some ⟨u.n, 0, none⟩) n n, [], [(u.n, .cells ⟨List.replicate n (Value.float FloatKind.f64 0)⟩ 27)]))⟩]) (fun ν0 => by kernel_rfl) (fun ν0 => by kernel_rfl) (fun ν0 => trivial) (fun ν0 => trivial) (fun ν0 => ⟨(ho_make 22 27 _ 8 (by kernel_rfl) (by kernel_rfl) rfl n (by omega) (by omega)), trivial⟩) ?_
  intro ν0 s0
  refine Goes.seg [] 100000 [] (fr' := ⟨26, #[(.float .f64 (x 0)), (.float .f64 (y)), (.int .i64 ((↑n : Int))), u, u, u, (.slice none (0) (0)), (.slice (some ⟨(ν0 1).n, 0, none⟩) (n) (n)), u, (.int .i64 ((↑n : Int))), (.bool (decide ((↑n : Int) < 1))), u, (.int .i64 ((↑n : Int))), (.slice (some ⟨(ν0 1).n, 0, none⟩) (n) (n)), (.slice (some ⟨(ν0 1).n, 0, none⟩) (n) (n)), (.int .i64 ((↑n : Int))), (.int .i64 (0)), u, u, u, u, u, u, u, u, u, u, u], [.code (codeAt Tryz.prog 26 [1, 1, 1, 0, 1, 0]), .inBlock 0, .code (codeAt Tryz.prog 26 [1, 1, 1, 1])], [], .run, .normal, none⟩) (cs' := []) (s' := s0) (L' := [((ν0 1).n, (.cells ⟨List.replicate n (Value.float FloatKind.f64 0)⟩ 27))]) (ob := []) (by kernel_rfl) (by kernel_rfl) trivial ?_
  refine Goes.first _ _ rfl rfl rfl ?_
  have key := Goes.loop (P := Tryz.prog) (w0 := w0) (F := F) (cs0 := cs0) (Φ := Ends Tryz.prog 26 (fun e w' => ∃ v : PU, ∃ s', v.n = s ∧ e = .returned (.slice (some ⟨v.x, 0, none⟩) n n) ∧ Good w0 s' ([(v.x, .cells ⟨fl x n⟩ 27)] ++ F) w') cs0) (linS x y n (ν0 1).n) (fun j => n - j.i) (fun j ih => by
    by_cases hi : j.i < n
    · exact linear_step w0 x y n (ν0 1).n hn2 hadd F cs0 _ j hi fun k hk => ih k (by show n - k.i < n - j.i; omega)
    · exact linear_end w0 x y n (ν0 1).n F cs0 _ (fun s1 w' g' => ⟨⟨s, (ν0 1).n, 0, undef, [], fun _ => 0⟩, s1, rfl, rfl, g'⟩) j hi)
  have key0 := key ⟨0, Nat.zero_le n, fun j => match j with | 9 => .int .i64 n | 10 => .bool (decide ((n : Int) < 1)) | 12 => .int .i64 n | 13 => .slice (some ⟨(ν0 1).n, 0, none⟩) n n | _ => u, s0⟩
  exact key0

end Go.Sx

namespace Go.Sx
open Go Go.Proofs Go.Fl
open Go.Lib (strCells)

set_option maxRecDepth 100000 in
theorem c_implLinear (w0 : World) (x : Nat → Nat) (y n : Nat) (h1 : 1 ≤ n) (hn2 : n ≤ 100000) (hadd : ∀ i, i < n → Ieee.double.add (x i) y = some (x (i + 1))) (s : Nat) (F : List (Nat × Obj)) (w : World) (g : Good w0 s F w) :
    Calls Tryz.prog 12 #[.float .f64 (x 0), .float .f64 y, .int .i64 n] w fun e w' => ∃ v : PU, ∃ s', v.n = s ∧ e = .returned (.tuple #[.slice (some ⟨v.x, 0, none⟩) n n, .bool true]) ∧ Good w0 s' ([(v.x, .cells ⟨fl x n⟩ 27)] ++ F) w' := by
  have hfit : (Value.bool (decide ((n : Int) ≤ 100000))) = .bool true := by rw [decide_eq_true (by omega)]
  have hn2' : n ≤ 1000000 := by omega
  refine Goes.calls (L := []) (F := F) g fun cs0 => ?_
  refine Goes.seg [26] 100000 [.at 2, .fix 11 (.bool (true)), .at 0, .at 1, .at 2] (fr' := ⟨25, #[(.pointer (some ⟨s, 0, none⟩)), (.pointer (some ⟨s + 1, 0, none⟩)), (.pointer (some ⟨s + 2, 0, none⟩)), (.pointer (some ⟨s + 3, 0, none⟩)), (.float .f64 (x 0)), (.float .f64 (y)), (.int .i64 ((↑n : Int))), u], [.inRegion (opsAt Tryz.prog 25 []) [3, 4]], [], .run, .normal, none⟩) (cs' := [⟨24, #[(.func (.func 25) #[] #[(.pointer (some ⟨s, 0, none⟩)), (.pointer (some ⟨s + 1, 0, none⟩)), (.pointer (some ⟨s + 2, 0, none⟩)), (.pointer (some ⟨s + 3, 0, none⟩))]), u, (.pointer (some ⟨s + 4, 0, none⟩)), (.func (.func 37) #[] #[(.pointer (some ⟨s + 4, 0, none⟩))]), (.func (.func 25) #[] #[(.pointer (some ⟨s, 0, none⟩)), (.pointer (some ⟨s + 1, 0, none⟩)), (.pointer (some ⟨s + 2, 0, none⟩)), (.pointer (some ⟨s + 3, 0, none⟩))]), u], [.inRegion (opsAt Tryz.prog 24 [1, 1, 0]) [1], .code (codeAt Tryz.prog 24 [1, 1, 1])], [⟨(.fn (.func 37) #[(.pointer (some ⟨s + 4, 0, none⟩))]), #[]⟩], .run, .normal, none⟩, ⟨12, #[(.float .f64 (x 0)), (.float .f64 (y)), (.int .i64 ((↑n : Int))), (.pointer (some ⟨s, 0, none⟩)), (.pointer (some ⟨s + 1, 0, none⟩)), (.pointer (some ⟨s + 2, 0, none⟩)), (.slice none (0) (0)), (.bool (false)), (.pointer (some ⟨s + 3, 0, none⟩)), u, (.int .i64 ((↑n : Int))), (.bool (true)), (.bool (true)), (.func (.func 25) #[] #[(.pointer (some ⟨s, 0, none⟩)), (.pointer (some ⟨s + 1, 0, none⟩)), (.pointer (some ⟨s + 2, 0, none⟩)), (.pointer (some ⟨s + 3, 0, none⟩))]), u, u, u, u], [.inRegion (opsAt Tryz.prog 12 [1, 1, 0]) [4, 5, 6], .code (codeAt Tryz.prog 12 [1, 1, 1])], [], .run, .normal, none⟩]) (s' := s + 5) (L' := [(s, (.cells #[(.float .f64 (x 0))] 27)), (s + 1, (.cells #[(.float .f64 (y))] 27)), (s + 2, (.cells #[(.int .i64 ((↑n : Int)))] 3)), (s + 3, (.cells #[(.slice none (0) (0))] 22)), (s + 4, (.cells #[(.bool (false))] 4))]) (ob := [(.val (.bool (decide ((↑n : Int) ≤ 100000))) (.bool (true)))]) (by kernel_rfl) (by kernel_rfl) (by repeat first | exact trivial | (refine And.intro (by first | assumption | rfl) ?_)) ?_
  refine Goes.inOrder [.rdo [] [], .rdo [] [], .rdo [] [], .call [] [] [5] 26 (fun v => (.slice (some ⟨v.x, 0, none⟩) n n, [], [(v.x, .cells ⟨fl x n⟩ 27)])), .mem [3] [] [.at 0]] 1 rfl rfl rfl rfl (fun ν0 => ⟨[(.pointer (some ⟨s, 0, none⟩)), (.pointer (some ⟨s + 1, 0, none⟩)), (.pointer (some ⟨s + 2, 0, none⟩)), (.pointer (some ⟨s + 3, 0, none⟩)), (.float .f64 (x 0)), (.float .f64 (y)), (.int .i64 ((↑n : Int))), (.slice (some ⟨(ν0 3).x, 0, none⟩) (n) (n))], [some (s, (.cells #[(.float .f64 (x 0))] 27)), some (s + 1, (.cells #[(.float .f64 (y))] 27)), some (s + 2, (.cells #[(.int .i64 ((↑n : Int)))] 3)), some (s + 3, (.cells #[(.slice (some ⟨(ν0 3).x, 0, none⟩) (n) (n))] 22)), some (s + 4, (.cells #[(.bool (false))] 4)), some ((ν0 3).x, (.cells { toList := fl x n } 27))]⟩) (fun ν0 => []) (fun ν0 => [⟨26, [(.float .f64 (x 0)), (.float .f64 (y)), (.int .i64 ((↑n : Int)))], [], [], (fun v => (.slice (some ⟨v.x, 0, none⟩) n n, [], [(v.x, .cells ⟨fl x n⟩ 27)]))⟩]) (fun ν0 => []) (fun ν0 => by kernel_rfl) (fun ν0 => by kernel_rfl) (fun ν0 => trivial) (fun ν0 => ⟨(fun s' F w g => c_linear w0 x y n h1 hn2' hadd s' _ w g), trivial⟩) (fun ν0 => trivial) ?_
  intro ν0 s0
  refine Goes.last [26] 100000 [.at 4, .brc false, .at 4, .at 3] (v := (.tuple #[(.slice (some ⟨(ν0 3).x, 0, none⟩) (n) (n)), (.bool (true))])) (s' := s0) (L' := [(s, (.cells #[(.float .f64 (x 0))] 27)), (s + 1, (.cells #[(.float .f64 (y))] 27)), (s + 2, (.cells #[(.int .i64 ((↑n : Int)))] 3)), (s + 3, (.cells #[(.slice (some ⟨(ν0 3).x, 0, none⟩) (n) (n))] 22)), (s + 4, (.cells #[(.bool (true))] 4)), ((ν0 3).x, (.cells { toList := fl x n } 27))]) (ob := []) (by kernel_rfl) (by kernel_rfl) trivial ?_
  intro w' g'
  exact ⟨⟨s, (ν0 3).x, 0, undef, [], fun _ => 0⟩, s0, rfl, rfl, g'.picked (L' := [((ν0 3).x, .cells ⟨fl x n⟩ 27)]) [5] rfl rfl⟩
set_option maxRecDepth 100000 in
theorem c_implLinear_none (w0 : World) (x y : Nat) (n : Int) (h1 : n < 1) (s : Nat) (F : List (Nat × Obj)) (w : World) (g : Good w0 s F w) :
    Calls Tryz.prog 12 #[.float .f64 x, .float .f64 y, .int .i64 n] w fun e w' => ∃ v : PU, ∃ s', v.n = s ∧ e = .returned (.tuple #[.slice none 0 0, .bool false]) ∧ Good w0 s' F w' := by
  have hfit : (Value.bool (decide (n ≤ 100000))) = .bool true := by rw [decide_eq_true (by omega)]
  have hlt0 : decide (n < 1) = true := decide_eq_true h1
  refine Goes.calls (L := []) (F := F) g fun cs0 => ?_
  refine Goes.last [] 100000 [.at 2, .fix 11 (.bool (true)), .at 0, .at 1, .at 2, .br true, .brc true, .at 4, .at 4, .at 3] (v := (.tuple #[(.slice none (0) (0)), (.bool (false))])) (s' := s + 5) (L' := [(s, (.cells #[(.float .f64 (x))] 27)), (s + 1, (.cells #[(.float .f64 (y))] 27)), (s + 2, (.cells #[(.int .i64 (n))] 3)), (s + 3, (.cells #[(.slice none (0) (0))] 22)), (s + 4, (.cells #[(.bool (false))] 4))]) (ob := [(.test (decide (n < 1)) true), (.val (.bool (decide (n ≤ 100000))) (.bool (true)))]) (by kernel_rfl) (by kernel_rfl) (by repeat first | exact trivial | (refine And.intro (by first | assumption | rfl) ?_)) ?_
  intro w' g'
  exact ⟨⟨s, 0, 0, undef, [], fun _ => 0⟩, _, rfl, rfl, g'.picked (L' := []) [] rfl rfl⟩

end Go.Sx
