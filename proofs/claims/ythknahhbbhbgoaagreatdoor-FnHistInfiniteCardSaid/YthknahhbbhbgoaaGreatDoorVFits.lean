/- The contracts of HistFits and HistBounds: numbers made increasing bounds, a last one of plus infinity cut. For every numbers. -/
import Derived.Test.YthknahhbbhbgoaaGreatDoorVSteps
import Derived.Test.YthknahhbbhbgoaaGreatDoorVHwVal
import Derived.Test.YthknahhbbhbgoaaGreatDoorVLives
namespace Go.Sx
open Go Go.Proofs Go.Fl
open Go.Lib (strCells)

noncomputable def hfFr (la : Option Addr) (M sc : Nat) (acc : Value) (i : Nat) (r : Nat → Value) : Frame := ⟨7, #[.slice la M sc, r 1, r 2, acc, .int .i64 i, r 5, r 6, r 7, r 8, r 9, r 10, r 11, r 12, r 13, r 14, r 15, r 16, r 17, r 18, r 19, r 20, r 21, r 22, r 23, r 24, r 25, r 26, r 27, r 28, r 29, r 30, r 31, r 32, r 33, r 34, r 35, r 36, r 37, r 38, r 39, r 40, r 41, r 42, r 43, r 44, r 45], [.code (codeAt Tryz.prog 7 [1, 1, 0, 1, 0, 0]), .inLoop (codeAt Tryz.prog 7 [1, 1, 0, 1, 0, 0]), .inBlock 0, .code (codeAt Tryz.prog 7 [1, 1, 1])], [], .run, .normal, none⟩

set_option maxRecDepth 100000 in
theorem hf_na (w0 : World) (a : Addr) (M sc v : Nat) (i : Nat) (r : Nat → Value) (s : Nat) (hM : M ≤ 4611686018427387904) (hi : i < M) (hold : w0.cell? (a.add (i * 1)) = some (.float .f64 v)) (hv : (FloatKind.f64.format.order v v == some Ordering.eq) = false)
    (F : List (Nat × Obj)) (cs0 : List Frame) (Φ : Machine → Prop) (ih : ∀ r' s', Goes Tryz.prog w0 F cs0 Φ (hfFr (some a) M sc (.slice none 0 0) (i + 1) r') [] s' []) :
    Goes Tryz.prog w0 F cs0 Φ (hfFr (some a) M sc (.slice none 0 0) i r) [] s [] := by
  have hlt0 : decide ((i : Int) < (M : Int)) = true := decide_eq_true (by omega)
  have heq : Value.bool (FloatKind.f64.format.order v v == some Ordering.eq) = .bool false := by rw [hv]
  show Goes Tryz.prog w0 F cs0 Φ ⟨7, #[.slice (some a) M sc, r 1, r 2, .slice none 0 0, .int .i64 i, r 5, r 6, r 7, r 8, r 9, r 10, r 11, r 12, r 13, r 14, r 15, r 16, r 17, r 18, r 19, r 20, r 21, r 22, r 23, r 24, r 25, r 26, r 27, r 28, r 29, r 30, r 31, r 32, r 33, r 34, r 35, r 36, r 37, r 38, r 39, r 40, r 41, r 42, r 43, r 44, r 45], [.code (codeAt Tryz.prog 7 [1, 1, 0, 1, 0, 0]), .inLoop (codeAt Tryz.prog 7 [1, 1, 0, 1, 0, 0]), .inBlock 0, .code (codeAt Tryz.prog 7 [1, 1, 1])], [], .run, .normal, none⟩ [] s []
  refine Goes.seg [] 16383 [.br true] (fr' := ⟨7, #[(.slice (some a) M sc), (r 1), (r 2), (.slice none 0 0), (.int .i64 ((↑i : Int))), (.int .i64 ((↑i : Int))), (.slice (some a) M sc), (.int .i64 ((↑M : Int))), (.bool (decide ((↑i : Int) < (↑M : Int)))), (r 9), (r 10), (r 11), (r 12), (r 13), (r 14), (r 15), (r 16), (r 17), (r 18), (r 19), (r 20), (r 21), (r 22), (r 23), (r 24), (r 25), (r 26), (r 27), (r 28), (r 29), (r 30), (r 31), (r 32), (r 33), (r 34), (r 35), (r 36), (r 37), (r 38), (r 39), (r 40), (r 41), (r 42), (r 43), (r 44), (r 45)], [.code (codeAt Tryz.prog 7 [1, 1, 0, 1, 0, 0, 1, 0, 0, 0]), .code (codeAt Tryz.prog 7 [1, 1, 0, 1, 0, 0, 1, 0, 0, 1]), .inBlock 1, .code (codeAt Tryz.prog 7 [1, 1, 0, 1, 0, 0, 1, 1]), .inLoop (codeAt Tryz.prog 7 [1, 1, 0, 1, 0, 0]), .inBlock 0, .code (codeAt Tryz.prog 7 [1, 1, 1])], [], .run, .normal, none⟩) (cs' := []) (s' := s) (L' := []) (ob := [(.test (decide ((↑i : Int) < (↑M : Int))) true)]) (by kernel_rfl) (by kernel_rfl) (by repeat first | exact trivial | (refine And.intro (by first | assumption | rfl) ?_)) ?_
  refine Goes.drawn [.rdo [] [], .rdo [] [], .hand [] [] [] (fun _ => (.pointer (some (a.add (i * 1))), [], [])), .rdo [] [.old (.float .f64 v)], .rdo [] [], .rdo [] [], .hand [] [] [] (fun _ => (.pointer (some (a.add (i * 1))), [], [])), .rdo [] [.old (.float .f64 v)], .rdo [] [.fix 19 (.bool false)], .rdo [] [], .rdo [] [], .rdo [] [], .rdo [] [], .rdo [] [], .rdo [] [], .rdo [] [], .rdo [] [], .rdo [] [], .rdo [] [], .rdo [] [], .rdo [] [], .rdo [] [], .rdo [] [], .rdo [] [], .rdo [] [], .rdo [] [], .rdo [] []] 0 rfl rfl rfl (by kernel_rfl) (by kernel_rfl) (by kernel_rfl) (fun ν0 => ⟨[(.slice (some a) M sc), (r 1), (r 2), (.slice none 0 0), (.int .i64 ((↑i : Int))), (.int .i64 ((↑i : Int))), (.slice (some a) M sc), (.int .i64 ((↑M : Int))), (.bool (decide ((↑i : Int) < (↑M : Int)))), (r 9), (r 10), (.slice (some a) M sc), (.int .i64 ((↑i : Int))), (.pointer (some (a.add (i * 1)))), (.float .f64 v), (.slice (some a) M sc), (.int .i64 ((↑i : Int))), (.pointer (some (a.add (i * 1)))), (.float .f64 v), (.bool false), (.bool false), u, u, u, u, u, u, u, u, u, u, u, u, u, u, u, u, (.bool false), (r 38), (r 39), (r 40), (r 41), (r 42), (r 43), (r 44), (r 45)], []⟩) (fun ν0 => [(.cell (a.add (i * 1)) (.float .f64 v)), (.cell (a.add (i * 1)) (.float .f64 v)), (.val (.bool (FloatKind.f64.format.order v v == some Ordering.eq)) (.bool false))]) (fun ν0 => []) (fun ν0 => [⟨(indexSem 22 (.slice (some a) M sc) (.int .i64 i)), [], [], (fun _ => (.pointer (some (a.add (i * 1))), [], []))⟩, ⟨(indexSem 22 (.slice (some a) M sc) (.int .i64 i)), [], [], (fun _ => (.pointer (some (a.add (i * 1))), [], []))⟩]) (fun ν0 => by kernel_rfl) (fun ν0 => by kernel_rfl) (fun ν0 => ⟨hold, hold, heq, trivial⟩) (fun ν0 => trivial) (fun ν0 => ⟨(ho_index_old 22 27 1 (by kernel_rfl) (by kernel_rfl) a M sc i hi), (ho_index_old 22 27 1 (by kernel_rfl) (by kernel_rfl) a M sc i hi), trivial⟩) ?_
  intro ν0 s0
  refine Goes.seg [] 100000 [.brc false] (fr' := ⟨7, #[(.slice (some a) M sc), (r 1), (r 2), (.slice none 0 0), (.int .i64 (IntKind.i64.wrap ((↑i : Int) + 1))), (.int .i64 ((↑i : Int))), (.slice (some a) M sc), (.int .i64 ((↑M : Int))), (.bool (decide ((↑i : Int) < (↑M : Int)))), (.int .i64 ((↑i : Int))), (.int .i64 (IntKind.i64.wrap ((↑i : Int) + 1))), (.slice (some a) M sc), (.int .i64 ((↑i : Int))), (.pointer (some (a.add (i * 1)))), (.float .f64 v), (.slice (some a) M sc), (.int .i64 ((↑i : Int))), (.pointer (some (a.add (i * 1)))), (.float .f64 v), (.bool false), (.bool false), u, u, u, u, u, u, u, u, u, u, u, u, u, u, u, u, (.bool false), (r 38), (r 39), (r 40), (r 41), (r 42), (r 43), (r 44), (r 45)], [.inLoop (codeAt Tryz.prog 7 [1, 1, 0, 1, 0, 0]), .inBlock 0, .code (codeAt Tryz.prog 7 [1, 1, 1])], [], .run, .normal, none⟩) (cs' := []) (s' := s0) (L' := []) (ob := []) (by kernel_rfl) (by kernel_rfl) trivial ?_
  rw [wrap_succ hi hM]
  refine Goes.pick [] rfl rfl ?_
  exact Goes.again _ _ rfl rfl rfl (ih (fun zz => match zz with | 5 => .int .i64 ((↑i : Int)) | 6 => .slice (some a) (M) (sc) | 7 => .int .i64 ((↑M : Int)) | 8 => .bool (decide ((↑i : Int) < (↑M : Int))) | 9 => .int .i64 ((↑i : Int)) | 10 => .int .i64 (((i + 1 : Nat) : Int)) | 11 => .slice (some a) (M) (sc) | 12 => .int .i64 ((↑i : Int)) | 13 => .pointer (some (a.add (i * 1))) | 14 => .float .f64 (v) | 15 => .slice (some a) (M) (sc) | 16 => .int .i64 ((↑i : Int)) | 17 => .pointer (some (a.add (i * 1))) | 18 => .float .f64 (v) | 19 => .bool (false) | 20 => .bool (false) | 21 => u | 22 => u | 23 => u | 24 => u | 25 => u | 26 => u | 27 => u | 28 => u | 29 => u | 30 => u | 31 => u | 32 => u | 33 => u | 34 => u | 35 => u | 36 => u | 37 => .bool (false) | zz => r zz) _)

set_option maxRecDepth 100000 in
theorem hf_oa (w0 : World) (a : Addr) (M sc v : Nat) (i : Nat) (r : Nat → Value) (s : Nat) (hM : M ≤ 4611686018427387904) (hi : i < M) (ob sp k : Nat) (xs : List Value) (hold : w0.cell? (a.add (i * 1)) = some (.float .f64 v)) (hv : (FloatKind.f64.format.order v v == some Ordering.eq) = false)
    (F : List (Nat × Obj)) (cs0 : List Frame) (Φ : Machine → Prop) (ih : ∀ r' s', Goes Tryz.prog w0 F cs0 Φ (hfFr (some a) M sc (.slice (some ⟨ob, 0, none⟩) k (k + sp)) (i + 1) r') [] s' [(ob, .cells ⟨xs ++ zc (.float .f64 0) sp⟩ 27)]) :
    Goes Tryz.prog w0 F cs0 Φ (hfFr (some a) M sc (.slice (some ⟨ob, 0, none⟩) k (k + sp)) i r) [] s [(ob, .cells ⟨xs ++ zc (.float .f64 0) sp⟩ 27)] := by
  have hlt0 : decide ((i : Int) < (M : Int)) = true := decide_eq_true (by omega)
  have heq : Value.bool (FloatKind.f64.format.order v v == some Ordering.eq) = .bool false := by rw [hv]
  show Goes Tryz.prog w0 F cs0 Φ ⟨7, #[.slice (some a) M sc, r 1, r 2, .slice (some ⟨ob, 0, none⟩) k (k + sp), .int .i64 i, r 5, r 6, r 7, r 8, r 9, r 10, r 11, r 12, r 13, r 14, r 15, r 16, r 17, r 18, r 19, r 20, r 21, r 22, r 23, r 24, r 25, r 26, r 27, r 28, r 29, r 30, r 31, r 32, r 33, r 34, r 35, r 36, r 37, r 38, r 39, r 40, r 41, r 42, r 43, r 44, r 45], [.code (codeAt Tryz.prog 7 [1, 1, 0, 1, 0, 0]), .inLoop (codeAt Tryz.prog 7 [1, 1, 0, 1, 0, 0]), .inBlock 0, .code (codeAt Tryz.prog 7 [1, 1, 1])], [], .run, .normal, none⟩ [] s [(ob, .cells ⟨xs ++ zc (.float .f64 0) sp⟩ 27)]
  refine Goes.seg [] 16383 [.br true] (fr' := ⟨7, #[(.slice (some a) M sc), (r 1), (r 2), (.slice (some ⟨ob, 0, none⟩) (k) ((k + sp))), (.int .i64 ((↑i : Int))), (.int .i64 ((↑i : Int))), (.slice (some a) M sc), (.int .i64 ((↑M : Int))), (.bool (decide ((↑i : Int) < (↑M : Int)))), (r 9), (r 10), (r 11), (r 12), (r 13), (r 14), (r 15), (r 16), (r 17), (r 18), (r 19), (r 20), (r 21), (r 22), (r 23), (r 24), (r 25), (r 26), (r 27), (r 28), (r 29), (r 30), (r 31), (r 32), (r 33), (r 34), (r 35), (r 36), (r 37), (r 38), (r 39), (r 40), (r 41), (r 42), (r 43), (r 44), (r 45)], [.code (codeAt Tryz.prog 7 [1, 1, 0, 1, 0, 0, 1, 0, 0, 0]), .code (codeAt Tryz.prog 7 [1, 1, 0, 1, 0, 0, 1, 0, 0, 1]), .inBlock 1, .code (codeAt Tryz.prog 7 [1, 1, 0, 1, 0, 0, 1, 1]), .inLoop (codeAt Tryz.prog 7 [1, 1, 0, 1, 0, 0]), .inBlock 0, .code (codeAt Tryz.prog 7 [1, 1, 1])], [], .run, .normal, none⟩) (cs' := []) (s' := s) (L' := [(ob, (.cells { toList := xs ++ zc (Value.float FloatKind.f64 0) sp } 27))]) (ob := [(.test (decide ((↑i : Int) < (↑M : Int))) true)]) (by kernel_rfl) (by kernel_rfl) (by repeat first | exact trivial | (refine And.intro (by first | assumption | rfl) ?_)) ?_
  refine Goes.drawn [.rdo [] [], .rdo [] [], .hand [] [] [] (fun _ => (.pointer (some (a.add (i * 1))), [], [])), .rdo [] [.old (.float .f64 v)], .rdo [] [], .rdo [] [], .hand [] [] [] (fun _ => (.pointer (some (a.add (i * 1))), [], [])), .rdo [] [.old (.float .f64 v)], .rdo [] [.fix 19 (.bool false)], .rdo [] [], .rdo [] [], .rdo [] [], .rdo [] [], .rdo [] [], .rdo [] [], .rdo [] [], .rdo [] [], .rdo [] [], .rdo [] [], .rdo [] [], .rdo [] [], .rdo [] [], .rdo [] [], .rdo [] [], .rdo [] [], .rdo [] [], .rdo [] []] 0 rfl rfl rfl (by kernel_rfl) (by kernel_rfl) (by kernel_rfl) (fun ν0 => ⟨[(.slice (some a) M sc), (r 1), (r 2), (.slice (some ⟨ob, 0, none⟩) (k) ((k + sp))), (.int .i64 ((↑i : Int))), (.int .i64 ((↑i : Int))), (.slice (some a) M sc), (.int .i64 ((↑M : Int))), (.bool (decide ((↑i : Int) < (↑M : Int)))), (r 9), (r 10), (.slice (some a) M sc), (.int .i64 ((↑i : Int))), (.pointer (some (a.add (i * 1)))), (.float .f64 v), (.slice (some a) M sc), (.int .i64 ((↑i : Int))), (.pointer (some (a.add (i * 1)))), (.float .f64 v), (.bool false), (.bool false), u, u, u, u, u, u, u, u, u, u, u, u, u, u, u, u, (.bool false), (r 38), (r 39), (r 40), (r 41), (r 42), (r 43), (r 44), (r 45)], [some (ob, (.cells { toList := xs ++ zc (Value.float FloatKind.f64 0) sp } 27))]⟩) (fun ν0 => [(.cell (a.add (i * 1)) (.float .f64 v)), (.cell (a.add (i * 1)) (.float .f64 v)), (.val (.bool (FloatKind.f64.format.order v v == some Ordering.eq)) (.bool false))]) (fun ν0 => []) (fun ν0 => [⟨(indexSem 22 (.slice (some a) M sc) (.int .i64 i)), [], [], (fun _ => (.pointer (some (a.add (i * 1))), [], []))⟩, ⟨(indexSem 22 (.slice (some a) M sc) (.int .i64 i)), [], [], (fun _ => (.pointer (some (a.add (i * 1))), [], []))⟩]) (fun ν0 => by kernel_rfl) (fun ν0 => by kernel_rfl) (fun ν0 => ⟨hold, hold, heq, trivial⟩) (fun ν0 => trivial) (fun ν0 => ⟨(ho_index_old 22 27 1 (by kernel_rfl) (by kernel_rfl) a M sc i hi), (ho_index_old 22 27 1 (by kernel_rfl) (by kernel_rfl) a M sc i hi), trivial⟩) ?_
  intro ν0 s0
  refine Goes.seg [] 100000 [.brc false] (fr' := ⟨7, #[(.slice (some a) M sc), (r 1), (r 2), (.slice (some ⟨ob, 0, none⟩) (k) ((k + sp))), (.int .i64 (IntKind.i64.wrap ((↑i : Int) + 1))), (.int .i64 ((↑i : Int))), (.slice (some a) M sc), (.int .i64 ((↑M : Int))), (.bool (decide ((↑i : Int) < (↑M : Int)))), (.int .i64 ((↑i : Int))), (.int .i64 (IntKind.i64.wrap ((↑i : Int) + 1))), (.slice (some a) M sc), (.int .i64 ((↑i : Int))), (.pointer (some (a.add (i * 1)))), (.float .f64 v), (.slice (some a) M sc), (.int .i64 ((↑i : Int))), (.pointer (some (a.add (i * 1)))), (.float .f64 v), (.bool false), (.bool false), u, u, u, u, u, u, u, u, u, u, u, u, u, u, u, u, (.bool false), (r 38), (r 39), (r 40), (r 41), (r 42), (r 43), (r 44), (r 45)], [.inLoop (codeAt Tryz.prog 7 [1, 1, 0, 1, 0, 0]), .inBlock 0, .code (codeAt Tryz.prog 7 [1, 1, 1])], [], .run, .normal, none⟩) (cs' := []) (s' := s0) (L' := [(ob, (.cells { toList := xs ++ zc (Value.float FloatKind.f64 0) sp } 27))]) (ob := []) (by kernel_rfl) (by kernel_rfl) trivial ?_
  rw [wrap_succ hi hM]
  refine Goes.pick [0] rfl rfl ?_
  exact Goes.again _ _ rfl rfl rfl (ih (fun zz => match zz with | 5 => .int .i64 ((↑i : Int)) | 6 => .slice (some a) (M) (sc) | 7 => .int .i64 ((↑M : Int)) | 8 => .bool (decide ((↑i : Int) < (↑M : Int))) | 9 => .int .i64 ((↑i : Int)) | 10 => .int .i64 (((i + 1 : Nat) : Int)) | 11 => .slice (some a) (M) (sc) | 12 => .int .i64 ((↑i : Int)) | 13 => .pointer (some (a.add (i * 1))) | 14 => .float .f64 (v) | 15 => .slice (some a) (M) (sc) | 16 => .int .i64 ((↑i : Int)) | 17 => .pointer (some (a.add (i * 1))) | 18 => .float .f64 (v) | 19 => .bool (false) | 20 => .bool (false) | 21 => u | 22 => u | 23 => u | 24 => u | 25 => u | 26 => u | 27 => u | 28 => u | 29 => u | 30 => u | 31 => u | 32 => u | 33 => u | 34 => u | 35 => u | 36 => u | 37 => .bool (false) | zz => r zz) _)

set_option maxRecDepth 100000 in
theorem hf_nb (w0 : World) (a : Addr) (M sc v : Nat) (i : Nat) (r : Nat → Value) (s : Nat) (hM : M ≤ 4611686018427387904) (hi : i < M) (hold : w0.cell? (a.add (i * 1)) = some (.float .f64 v)) (hv : (FloatKind.f64.format.order v v == some Ordering.eq) = true)
    (F : List (Nat × Obj)) (cs0 : List Frame) (Φ : Machine → Prop) (ih : ∀ ob' sp' r' s', Goes Tryz.prog w0 F cs0 Φ (hfFr (some a) M sc (.slice (some ⟨ob', 0, none⟩) 1 (1 + sp')) (i + 1) r') [] s' [(ob', .cells ⟨[.float .f64 v] ++ zc (.float .f64 0) sp'⟩ 27)]) :
    Goes Tryz.prog w0 F cs0 Φ (hfFr (some a) M sc (.slice none 0 0) i r) [] s [] := by
  have hlt0 : decide ((i : Int) < (M : Int)) = true := decide_eq_true (by omega)
  have heq : Value.bool (FloatKind.f64.format.order v v == some Ordering.eq) = .bool true := by rw [hv]
  show Goes Tryz.prog w0 F cs0 Φ ⟨7, #[.slice (some a) M sc, r 1, r 2, .slice none 0 0, .int .i64 i, r 5, r 6, r 7, r 8, r 9, r 10, r 11, r 12, r 13, r 14, r 15, r 16, r 17, r 18, r 19, r 20, r 21, r 22, r 23, r 24, r 25, r 26, r 27, r 28, r 29, r 30, r 31, r 32, r 33, r 34, r 35, r 36, r 37, r 38, r 39, r 40, r 41, r 42, r 43, r 44, r 45], [.code (codeAt Tryz.prog 7 [1, 1, 0, 1, 0, 0]), .inLoop (codeAt Tryz.prog 7 [1, 1, 0, 1, 0, 0]), .inBlock 0, .code (codeAt Tryz.prog 7 [1, 1, 1])], [], .run, .normal, none⟩ [] s []
  refine Goes.seg [] 16383 [.br true] (fr' := ⟨7, #[(.slice (some a) M sc), (r 1), (r 2), (.slice none 0 0), (.int .i64 ((↑i : Int))), (.int .i64 ((↑i : Int))), (.slice (some a) M sc), (.int .i64 ((↑M : Int))), (.bool (decide ((↑i : Int) < (↑M : Int)))), (r 9), (r 10), (r 11), (r 12), (r 13), (r 14), (r 15), (r 16), (r 17), (r 18), (r 19), (r 20), (r 21), (r 22), (r 23), (r 24), (r 25), (r 26), (r 27), (r 28), (r 29), (r 30), (r 31), (r 32), (r 33), (r 34), (r 35), (r 36), (r 37), (r 38), (r 39), (r 40), (r 41), (r 42), (r 43), (r 44), (r 45)], [.code (codeAt Tryz.prog 7 [1, 1, 0, 1, 0, 0, 1, 0, 0, 0]), .code (codeAt Tryz.prog 7 [1, 1, 0, 1, 0, 0, 1, 0, 0, 1]), .inBlock 1, .code (codeAt Tryz.prog 7 [1, 1, 0, 1, 0, 0, 1, 1]), .inLoop (codeAt Tryz.prog 7 [1, 1, 0, 1, 0, 0]), .inBlock 0, .code (codeAt Tryz.prog 7 [1, 1, 1])], [], .run, .normal, none⟩) (cs' := []) (s' := s) (L' := []) (ob := [(.test (decide ((↑i : Int) < (↑M : Int))) true)]) (by kernel_rfl) (by kernel_rfl) (by repeat first | exact trivial | (refine And.intro (by first | assumption | rfl) ?_)) ?_
  refine Goes.drawn [.rdo [] [], .rdo [] [], .hand [] [] [] (fun _ => (.pointer (some (a.add (i * 1))), [], [])), .rdo [] [.old (.float .f64 v)], .rdo [] [], .rdo [] [], .hand [] [] [] (fun _ => (.pointer (some (a.add (i * 1))), [], [])), .rdo [] [.old (.float .f64 v)], .rdo [] [.fix 19 (.bool true)], .rdo [] [], .rdo [] [], .rdo [] [], .rdo [] [], .rdo [] [], .rdo [] [], .rdo [] [], .rdo [] [], .rdo [] [], .rdo [] [], .rdo [] [], .rdo [] [], .rdo [] [], .rdo [] [], .rdo [] [], .rdo [] [], .rdo [] [], .rdo [] []] 0 rfl rfl rfl (by kernel_rfl) (by kernel_rfl) (by kernel_rfl) (fun ν0 => ⟨[(.slice (some a) M sc), (r 1), (r 2), (.slice none 0 0), (.int .i64 ((↑i : Int))), (.int .i64 ((↑i : Int))), (.slice (some a) M sc), (.int .i64 ((↑M : Int))), (.bool (decide ((↑i : Int) < (↑M : Int)))), (r 9), (r 10), (.slice (some a) M sc), (.int .i64 ((↑i : Int))), (.pointer (some (a.add (i * 1)))), (.float .f64 v), (.slice (some a) M sc), (.int .i64 ((↑i : Int))), (.pointer (some (a.add (i * 1)))), (.float .f64 v), (.bool true), (.bool true), (.slice none 0 0), (.int .i64 0), (.bool true), (.bool true), u, u, u, u, u, u, u, u, u, u, u, (.bool true), (.bool true), (r 38), (r 39), (r 40), (r 41), (r 42), (r 43), (r 44), (r 45)], []⟩) (fun ν0 => [(.cell (a.add (i * 1)) (.float .f64 v)), (.cell (a.add (i * 1)) (.float .f64 v)), (.val (.bool (FloatKind.f64.format.order v v == some Ordering.eq)) (.bool true))]) (fun ν0 => []) (fun ν0 => [⟨(indexSem 22 (.slice (some a) M sc) (.int .i64 i)), [], [], (fun _ => (.pointer (some (a.add (i * 1))), [], []))⟩, ⟨(indexSem 22 (.slice (some a) M sc) (.int .i64 i)), [], [], (fun _ => (.pointer (some (a.add (i * 1))), [], []))⟩]) (fun ν0 => by kernel_rfl) (fun ν0 => by kernel_rfl) (fun ν0 => ⟨hold, hold, heq, trivial⟩) (fun ν0 => trivial) (fun ν0 => ⟨(ho_index_old 22 27 1 (by kernel_rfl) (by kernel_rfl) a M sc i hi), (ho_index_old 22 27 1 (by kernel_rfl) (by kernel_rfl) a M sc i hi), trivial⟩) ?_
  intro ν0 s0
  refine Goes.seg [] 5 [.brc true] (fr' := ⟨7, #[(.slice (some a) M sc), (r 1), (r 2), (.slice none 0 0), (.int .i64 ((↑i : Int))), (.int .i64 ((↑i : Int))), (.slice (some a) M sc), (.int .i64 ((↑M : Int))), (.bool (decide ((↑i : Int) < (↑M : Int)))), (r 9), (r 10), (.slice (some a) M sc), (.int .i64 ((↑i : Int))), (.pointer (some (a.add (i * 1)))), (.float .f64 v), (.slice (some a) M sc), (.int .i64 ((↑i : Int))), (.pointer (some (a.add (i * 1)))), (.float .f64 v), (.bool true), (.bool true), (.slice none 0 0), (.int .i64 0), (.bool true), (.bool true), u, u, u, u, u, u, u, u, u, u, u, (.bool true), (.bool true), (.slice none 0 0), (.slice (some a) M sc), (.int .i64 ((↑i : Int))), (r 41), (r 42), (r 43), (r 44), (r 45)], [.inRegion (opsAt Tryz.prog 7 [1, 1, 0, 1, 0, 0, 1, 0, 0, 1, 0]) [3, 4, 5, 6, 7], .inBlock 1, .code (codeAt Tryz.prog 7 [1, 1, 0, 1, 0, 0, 1, 1]), .inLoop (codeAt Tryz.prog 7 [1, 1, 0, 1, 0, 0]), .inBlock 0, .code (codeAt Tryz.prog 7 [1, 1, 1])], [], .run, .normal, none⟩) (cs' := []) (s' := s0) (L' := []) (ob := []) (by kernel_rfl) (by kernel_rfl) trivial ?_
  refine Goes.inOrder [.rdo [] [], .rdo [] [], .rdo [] [], .hand [] [] [] (fun _ => (.pointer (some (a.add (i * 1))), [], [])), .rdo [] [.old (.float .f64 v)], .mem [] [0] [], .hand [0] [] [1] (fun u => (.slice (some ⟨u.n, 0, none⟩) 1 (1 + u.y), [], [(u.n, .cells ⟨[.float .f64 v] ++ zc (.float .f64 0) u.y⟩ 27)])), .rdo [] []] 2 rfl rfl rfl rfl (fun ν1 => ⟨[(.slice (some a) M sc), (r 1), (r 2), (.slice (some ⟨(ν1 6).n, 0, none⟩) (1) ((1 + ((ν1 6).y)))), (.int .i64 ((↑i : Int))), (.int .i64 ((↑i : Int))), (.slice (some a) M sc), (.int .i64 ((↑M : Int))), (.bool (decide ((↑i : Int) < (↑M : Int)))), (r 9), (r 10), (.slice (some a) M sc), (.int .i64 ((↑i : Int))), (.pointer (some (a.add (i * 1)))), (.float .f64 v), (.slice (some a) M sc), (.int .i64 ((↑i : Int))), (.pointer (some (a.add (i * 1)))), (.float .f64 v), (.bool true), (.bool true), (.slice none 0 0), (.int .i64 0), (.bool true), (.bool true), u, u, u, u, u, u, u, u, u, u, u, (.bool true), (.bool true), (.slice none 0 0), (.slice (some a) M sc), (.int .i64 ((↑i : Int))), (.pointer (some (a.add (i * 1)))), (.float .f64 v), (.slice (some ⟨(ν1 5).n, 0, none⟩) (1) (1)), (.slice (some ⟨(ν1 6).n, 0, none⟩) (1) ((1 + ((ν1 6).y)))), (r 45)], [some ((ν1 5).n, (.cells #[(.float .f64 v)] 27)), some ((ν1 6).n, (.cells { toList := [Value.float FloatKind.f64 v] ++ zc (Value.float FloatKind.f64 0) (ν1 6).y } 27))]⟩) (fun ν1 => [(.cell (a.add (i * 1)) (.float .f64 v))]) (fun ν1 => []) (fun ν1 => [⟨(indexSem 22 (.slice (some a) M sc) (.int .i64 i)), [], [], (fun _ => (.pointer (some (a.add (i * 1))), [], []))⟩, ⟨(appendSem 22 22 (.slice none 0 0) (.slice (some ⟨(ν1 5).n, 0, none⟩) 1 1)), [((ν1 5).n, (.cells #[(.float .f64 v)] 27))], [], (fun u => (.slice (some ⟨u.n, 0, none⟩) 1 (1 + u.y), [], [(u.n, .cells ⟨[.float .f64 v] ++ zc (.float .f64 0) u.y⟩ 27)]))⟩]) (fun ν1 => by kernel_rfl) (fun ν1 => by kernel_rfl) (fun ν1 => ⟨hold, trivial⟩) (fun ν1 => trivial) (fun ν1 => ⟨(ho_index_old 22 27 1 (by kernel_rfl) (by kernel_rfl) a M sc i hi), (ho_nil (.float .f64 0) 1 8 (by kernel_rfl) (by kernel_rfl) rfl (by decide) _ 0 1 1 _ _ _ [.float .f64 v] rfl rfl (by decide) (by decide) (by decide)), trivial⟩) ?_
  intro ν1 s1
  refine Goes.seg [] 100000 [] (fr' := ⟨7, #[(.slice (some a) M sc), (r 1), (r 2), (.slice (some ⟨(ν1 6).n, 0, none⟩) (1) ((1 + ((ν1 6).y)))), (.int .i64 (IntKind.i64.wrap ((↑i : Int) + 1))), (.int .i64 ((↑i : Int))), (.slice (some a) M sc), (.int .i64 ((↑M : Int))), (.bool (decide ((↑i : Int) < (↑M : Int)))), (.int .i64 ((↑i : Int))), (.int .i64 (IntKind.i64.wrap ((↑i : Int) + 1))), (.slice (some a) M sc), (.int .i64 ((↑i : Int))), (.pointer (some (a.add (i * 1)))), (.float .f64 v), (.slice (some a) M sc), (.int .i64 ((↑i : Int))), (.pointer (some (a.add (i * 1)))), (.float .f64 v), (.bool true), (.bool true), (.slice none 0 0), (.int .i64 0), (.bool true), (.bool true), u, u, u, u, u, u, u, u, u, u, u, (.bool true), (.bool true), (.slice none 0 0), (.slice (some a) M sc), (.int .i64 ((↑i : Int))), (.pointer (some (a.add (i * 1)))), (.float .f64 v), (.slice (some ⟨(ν1 5).n, 0, none⟩) (1) (1)), (.slice (some ⟨(ν1 6).n, 0, none⟩) (1) ((1 + ((ν1 6).y)))), (r 45)], [.inLoop (codeAt Tryz.prog 7 [1, 1, 0, 1, 0, 0]), .inBlock 0, .code (codeAt Tryz.prog 7 [1, 1, 1])], [], .run, .normal, none⟩) (cs' := []) (s' := s1) (L' := [((ν1 5).n, (.cells #[(.float .f64 v)] 27)), ((ν1 6).n, (.cells { toList := [Value.float FloatKind.f64 v] ++ zc (Value.float FloatKind.f64 0) (ν1 6).y } 27))]) (ob := []) (by kernel_rfl) (by kernel_rfl) trivial ?_
  rw [wrap_succ hi hM]
  refine Goes.pick [1] rfl rfl ?_
  exact Goes.again _ _ rfl rfl rfl (ih (ν1 6).n (ν1 6).y (fun zz => match zz with | 5 => .int .i64 ((↑i : Int)) | 6 => .slice (some a) (M) (sc) | 7 => .int .i64 ((↑M : Int)) | 8 => .bool (decide ((↑i : Int) < (↑M : Int))) | 9 => .int .i64 ((↑i : Int)) | 10 => .int .i64 (((i + 1 : Nat) : Int)) | 11 => .slice (some a) (M) (sc) | 12 => .int .i64 ((↑i : Int)) | 13 => .pointer (some (a.add (i * 1))) | 14 => .float .f64 (v) | 15 => .slice (some a) (M) (sc) | 16 => .int .i64 ((↑i : Int)) | 17 => .pointer (some (a.add (i * 1))) | 18 => .float .f64 (v) | 19 => .bool (true) | 20 => .bool (true) | 21 => .slice none (0) (0) | 22 => .int .i64 (0) | 23 => .bool (true) | 24 => .bool (true) | 25 => u | 26 => u | 27 => u | 28 => u | 29 => u | 30 => u | 31 => u | 32 => u | 33 => u | 34 => u | 35 => u | 36 => .bool (true) | 37 => .bool (true) | 38 => .slice none (0) (0) | 39 => .slice (some a) (M) (sc) | 40 => .int .i64 ((↑i : Int)) | 41 => .pointer (some (a.add (i * 1))) | 42 => .float .f64 (v) | 43 => .slice (some ⟨(ν1 5).n, 0, none⟩) (1) (1) | 44 => .slice (some ⟨(ν1 6).n, 0, none⟩) (1) ((1 + ((ν1 6).y))) | zz => r zz) _)

set_option maxRecDepth 100000 in
theorem hf_oc (w0 : World) (a : Addr) (M sc v : Nat) (i : Nat) (r : Nat → Value) (s : Nat) (hM : M ≤ 4611686018427387904) (hi : i < M) (ob sp k : Nat) (xs : List Value) (k1 z : Nat) (hk : k = k1 + 1) (hk63 : k < 4611686018427387904) (hget : (⟨xs ++ zc (.float .f64 0) sp⟩ : Array Value)[0 + k1]? = some (.float .f64 z)) (hz : (FloatKind.f64.format.order v z == some Ordering.gt) = true) (hkb : k + 1 ≤ 1099511627776) (hxs : xs.length = k * 1) (hold : w0.cell? (a.add (i * 1)) = some (.float .f64 v)) (hv : (FloatKind.f64.format.order v v == some Ordering.eq) = true)
    (F : List (Nat × Obj)) (cs0 : List Frame) (Φ : Machine → Prop) (ih : ∀ ob' sp' r' s', Goes Tryz.prog w0 F cs0 Φ (hfFr (some a) M sc (.slice (some ⟨ob', 0, none⟩) (k + 1) ((k + 1) + sp')) (i + 1) r') [] s' [(ob', .cells ⟨xs ++ [.float .f64 v] ++ zc (.float .f64 0) sp'⟩ 27)]) :
    Goes Tryz.prog w0 F cs0 Φ (hfFr (some a) M sc (.slice (some ⟨ob, 0, none⟩) k (k + sp)) i r) [] s [(ob, .cells ⟨xs ++ zc (.float .f64 0) sp⟩ 27)] := by
  have hlt0 : decide ((i : Int) < (M : Int)) = true := decide_eq_true (by omega)
  have heq : Value.bool (FloatKind.f64.format.order v v == some Ordering.eq) = .bool true := by rw [hv]
  have hk0 : Value.bool ((k : Int) == 0) = .bool false := by
    have : ((k : Int) == 0) = false := by simp; omega
    rw [this]
  have hk1 : Value.int .i64 (IntKind.i64.wrap ((k : Int) - 1)) = .int .i64 (k1 : Int) := by
    have : IntKind.i64.wrap ((k : Int) - 1) = (k1 : Int) := by rw [IntKind.wrap_i64]; omega
    rw [this]
  have hk1k : k1 < k := by omega
  have hgt : Value.bool (FloatKind.f64.format.order v z == some Ordering.gt) = .bool true := by rw [hz]
  show Goes Tryz.prog w0 F cs0 Φ ⟨7, #[.slice (some a) M sc, r 1, r 2, .slice (some ⟨ob, 0, none⟩) k (k + sp), .int .i64 i, r 5, r 6, r 7, r 8, r 9, r 10, r 11, r 12, r 13, r 14, r 15, r 16, r 17, r 18, r 19, r 20, r 21, r 22, r 23, r 24, r 25, r 26, r 27, r 28, r 29, r 30, r 31, r 32, r 33, r 34, r 35, r 36, r 37, r 38, r 39, r 40, r 41, r 42, r 43, r 44, r 45], [.code (codeAt Tryz.prog 7 [1, 1, 0, 1, 0, 0]), .inLoop (codeAt Tryz.prog 7 [1, 1, 0, 1, 0, 0]), .inBlock 0, .code (codeAt Tryz.prog 7 [1, 1, 1])], [], .run, .normal, none⟩ [] s [(ob, .cells ⟨xs ++ zc (.float .f64 0) sp⟩ 27)]
  refine Goes.seg [] 16383 [.br true] (fr' := ⟨7, #[(.slice (some a) M sc), (r 1), (r 2), (.slice (some ⟨ob, 0, none⟩) (k) ((k + sp))), (.int .i64 ((↑i : Int))), (.int .i64 ((↑i : Int))), (.slice (some a) M sc), (.int .i64 ((↑M : Int))), (.bool (decide ((↑i : Int) < (↑M : Int)))), (r 9), (r 10), (r 11), (r 12), (r 13), (r 14), (r 15), (r 16), (r 17), (r 18), (r 19), (r 20), (r 21), (r 22), (r 23), (r 24), (r 25), (r 26), (r 27), (r 28), (r 29), (r 30), (r 31), (r 32), (r 33), (r 34), (r 35), (r 36), (r 37), (r 38), (r 39), (r 40), (r 41), (r 42), (r 43), (r 44), (r 45)], [.code (codeAt Tryz.prog 7 [1, 1, 0, 1, 0, 0, 1, 0, 0, 0]), .code (codeAt Tryz.prog 7 [1, 1, 0, 1, 0, 0, 1, 0, 0, 1]), .inBlock 1, .code (codeAt Tryz.prog 7 [1, 1, 0, 1, 0, 0, 1, 1]), .inLoop (codeAt Tryz.prog 7 [1, 1, 0, 1, 0, 0]), .inBlock 0, .code (codeAt Tryz.prog 7 [1, 1, 1])], [], .run, .normal, none⟩) (cs' := []) (s' := s) (L' := [(ob, (.cells { toList := xs ++ zc (Value.float FloatKind.f64 0) sp } 27))]) (ob := [(.test (decide ((↑i : Int) < (↑M : Int))) true)]) (by kernel_rfl) (by kernel_rfl) (by repeat first | exact trivial | (refine And.intro (by first | assumption | rfl) ?_)) ?_
  refine Goes.drawn [.rdo [] [], .rdo [] [], .hand [] [] [] (fun _ => (.pointer (some (a.add (i * 1))), [], [])), .rdo [] [.old (.float .f64 v)], .rdo [] [], .rdo [] [], .hand [] [] [] (fun _ => (.pointer (some (a.add (i * 1))), [], [])), .rdo [] [.old (.float .f64 v)], .rdo [] [.fix 19 (.bool true)], .rdo [] [], .rdo [] [], .rdo [] [], .rdo [] [.fix 23 (.bool false)], .rdo [] [], .rdo [] [], .rdo [] [], .hand [] [] [] (fun _ => (.pointer (some (a.add (i * 1))), [], [])), .rdo [] [.old (.float .f64 v)], .rdo [] [], .rdo [] [], .rdo [] [], .rdo [] [.fix 32 (.int .i64 k1)], .hand [] [] [] (fun _ => (.pointer (some ⟨ob, k1 * 1, none⟩), [], [])), .rdo [0] [.ldv 0 (.float .f64 z)], .rdo [] [.fix 35 (.bool true)], .rdo [] [], .rdo [] []] 0 rfl rfl rfl (by kernel_rfl) (by kernel_rfl) (by kernel_rfl) (fun ν0 => ⟨[(.slice (some a) M sc), (r 1), (r 2), (.slice (some ⟨ob, 0, none⟩) (k) ((k + sp))), (.int .i64 ((↑i : Int))), (.int .i64 ((↑i : Int))), (.slice (some a) M sc), (.int .i64 ((↑M : Int))), (.bool (decide ((↑i : Int) < (↑M : Int)))), (r 9), (r 10), (.slice (some a) M sc), (.int .i64 ((↑i : Int))), (.pointer (some (a.add (i * 1)))), (.float .f64 v), (.slice (some a) M sc), (.int .i64 ((↑i : Int))), (.pointer (some (a.add (i * 1)))), (.float .f64 v), (.bool true), (.bool true), (.slice (some ⟨ob, 0, none⟩) (k) ((k + sp))), (.int .i64 ((↑k : Int))), (.bool false), (.bool false), (.slice (some a) M sc), (.int .i64 ((↑i : Int))), (.pointer (some (a.add (i * 1)))), (.float .f64 v), (.slice (some ⟨ob, 0, none⟩) (k) ((k + sp))), (.slice (some ⟨ob, 0, none⟩) (k) ((k + sp))), (.int .i64 ((↑k : Int))), (.int .i64 ((↑k1 : Int))), (.pointer (some ⟨ob, (0 + k1), none⟩)), (.float .f64 z), (.bool true), (.bool true), (.bool true), (r 38), (r 39), (r 40), (r 41), (r 42), (r 43), (r 44), (r 45)], [some (ob, (.cells { toList := xs ++ zc (Value.float FloatKind.f64 0) sp } 27))]⟩) (fun ν0 => [(.cell (a.add (i * 1)) (.float .f64 v)), (.cell (a.add (i * 1)) (.float .f64 v)), (.val (.bool (FloatKind.f64.format.order v v == some Ordering.eq)) (.bool true)), (.val (.bool ((↑k : Int) == 0)) (.bool false)), (.cell (a.add (i * 1)) (.float .f64 v)), (.val (.int .i64 (IntKind.i64.wrap ((↑k : Int) - 1))) (.int .i64 ((↑k1 : Int)))), (.get ({ toList := xs ++ zc (Value.float FloatKind.f64 0) sp }) ((0 + k1)) (.float .f64 z)), (.val (.bool (FloatKind.f64.format.order v z == some Ordering.gt)) (.bool true))]) (fun ν0 => []) (fun ν0 => [⟨(indexSem 22 (.slice (some a) M sc) (.int .i64 i)), [], [], (fun _ => (.pointer (some (a.add (i * 1))), [], []))⟩, ⟨(indexSem 22 (.slice (some a) M sc) (.int .i64 i)), [], [], (fun _ => (.pointer (some (a.add (i * 1))), [], []))⟩, ⟨(indexSem 22 (.slice (some a) M sc) (.int .i64 i)), [], [], (fun _ => (.pointer (some (a.add (i * 1))), [], []))⟩, ⟨(indexSem 22 (.slice (some ⟨ob, 0, none⟩) k (k + sp)) (.int .i64 k1)), [], [], (fun _ => (.pointer (some ⟨ob, k1 * 1, none⟩), [], []))⟩]) (fun ν0 => by kernel_rfl) (fun ν0 => by kernel_rfl) (fun ν0 => ⟨hold, hold, heq, hk0, hold, hk1, hget, hgt, trivial⟩) (fun ν0 => trivial) (fun ν0 => ⟨(ho_index_old 22 27 1 (by kernel_rfl) (by kernel_rfl) a M sc i hi), (ho_index_old 22 27 1 (by kernel_rfl) (by kernel_rfl) a M sc i hi), (ho_index_old 22 27 1 (by kernel_rfl) (by kernel_rfl) a M sc i hi), (ho_index 22 27 1 (by kernel_rfl) (by kernel_rfl) ob k (k + sp) k1 hk1k), trivial⟩) ?_
  intro ν0 s0
  refine Goes.seg [] 5 [.brc true] (fr' := ⟨7, #[(.slice (some a) M sc), (r 1), (r 2), (.slice (some ⟨ob, 0, none⟩) (k) ((k + sp))), (.int .i64 ((↑i : Int))), (.int .i64 ((↑i : Int))), (.slice (some a) M sc), (.int .i64 ((↑M : Int))), (.bool (decide ((↑i : Int) < (↑M : Int)))), (r 9), (r 10), (.slice (some a) M sc), (.int .i64 ((↑i : Int))), (.pointer (some (a.add (i * 1)))), (.float .f64 v), (.slice (some a) M sc), (.int .i64 ((↑i : Int))), (.pointer (some (a.add (i * 1)))), (.float .f64 v), (.bool true), (.bool true), (.slice (some ⟨ob, 0, none⟩) (k) ((k + sp))), (.int .i64 ((↑k : Int))), (.bool false), (.bool false), (.slice (some a) M sc), (.int .i64 ((↑i : Int))), (.pointer (some (a.add (i * 1)))), (.float .f64 v), (.slice (some ⟨ob, 0, none⟩) (k) ((k + sp))), (.slice (some ⟨ob, 0, none⟩) (k) ((k + sp))), (.int .i64 ((↑k : Int))), (.int .i64 ((↑k1 : Int))), (.pointer (some ⟨ob, (0 + k1), none⟩)), (.float .f64 z), (.bool true), (.bool true), (.bool true), (.slice (some ⟨ob, 0, none⟩) (k) ((k + sp))), (.slice (some a) M sc), (.int .i64 ((↑i : Int))), (r 41), (r 42), (r 43), (r 44), (r 45)], [.inRegion (opsAt Tryz.prog 7 [1, 1, 0, 1, 0, 0, 1, 0, 0, 1, 0]) [3, 4, 5, 6, 7], .inBlock 1, .code (codeAt Tryz.prog 7 [1, 1, 0, 1, 0, 0, 1, 1]), .inLoop (codeAt Tryz.prog 7 [1, 1, 0, 1, 0, 0]), .inBlock 0, .code (codeAt Tryz.prog 7 [1, 1, 1])], [], .run, .normal, none⟩) (cs' := []) (s' := s0) (L' := [(ob, (.cells { toList := xs ++ zc (Value.float FloatKind.f64 0) sp } 27))]) (ob := []) (by kernel_rfl) (by kernel_rfl) trivial ?_
  refine Goes.inOrder [.rdo [] [], .rdo [] [], .rdo [] [], .hand [] [] [] (fun _ => (.pointer (some (a.add (i * 1))), [], [])), .rdo [] [.old (.float .f64 v)], .mem [] [1] [], .hand [1] [0] [] (fun u => (.slice (some ⟨u.x, 0, none⟩) (k + 1) (k + 1 + u.y), [(u.x, .cells ⟨xs ++ [.float .f64 v] ++ zc (.float .f64 0) u.y⟩ 27)], [])), .rdo [] []] 1 rfl rfl rfl rfl (fun ν1 => ⟨[(.slice (some a) M sc), (r 1), (r 2), (.slice (some ⟨(ν1 6).x, 0, none⟩) (k + 1) ((k + 1 + ((ν1 6).y)))), (.int .i64 ((↑i : Int))), (.int .i64 ((↑i : Int))), (.slice (some a) M sc), (.int .i64 ((↑M : Int))), (.bool (decide ((↑i : Int) < (↑M : Int)))), (r 9), (r 10), (.slice (some a) M sc), (.int .i64 ((↑i : Int))), (.pointer (some (a.add (i * 1)))), (.float .f64 v), (.slice (some a) M sc), (.int .i64 ((↑i : Int))), (.pointer (some (a.add (i * 1)))), (.float .f64 v), (.bool true), (.bool true), (.slice (some ⟨ob, 0, none⟩) (k) ((k + sp))), (.int .i64 ((↑k : Int))), (.bool false), (.bool false), (.slice (some a) M sc), (.int .i64 ((↑i : Int))), (.pointer (some (a.add (i * 1)))), (.float .f64 v), (.slice (some ⟨ob, 0, none⟩) (k) ((k + sp))), (.slice (some ⟨ob, 0, none⟩) (k) ((k + sp))), (.int .i64 ((↑k : Int))), (.int .i64 ((↑k1 : Int))), (.pointer (some ⟨ob, (0 + k1), none⟩)), (.float .f64 z), (.bool true), (.bool true), (.bool true), (.slice (some ⟨ob, 0, none⟩) (k) ((k + sp))), (.slice (some a) M sc), (.int .i64 ((↑i : Int))), (.pointer (some (a.add (i * 1)))), (.float .f64 v), (.slice (some ⟨(ν1 5).n, 0, none⟩) (1) (1)), (.slice (some ⟨(ν1 6).x, 0, none⟩) (k + 1) ((k + 1 + ((ν1 6).y)))), (r 45)], [some ((ν1 6).x, (.cells { toList := xs ++ [Value.float FloatKind.f64 v] ++ zc (Value.float FloatKind.f64 0) (ν1 6).y } 27)), some ((ν1 5).n, (.cells #[(.float .f64 v)] 27))]⟩) (fun ν1 => [(.cell (a.add (i * 1)) (.float .f64 v))]) (fun ν1 => []) (fun ν1 => [⟨(indexSem 22 (.slice (some a) M sc) (.int .i64 i)), [], [], (fun _ => (.pointer (some (a.add (i * 1))), [], []))⟩, ⟨(appendSem 22 22 (.slice (some ⟨ob, 0, none⟩) k (k + sp)) (.slice (some ⟨(ν1 5).n, 0, none⟩) 1 1)), [((ν1 5).n, (.cells #[(.float .f64 v)] 27))], [(ob, (.cells { toList := xs ++ zc (Value.float FloatKind.f64 0) sp } 27))], (fun u => (.slice (some ⟨u.x, 0, none⟩) (k + 1) (k + 1 + u.y), [(u.x, .cells ⟨xs ++ [.float .f64 v] ++ zc (.float .f64 0) u.y⟩ 27)], []))⟩]) (fun ν1 => by kernel_rfl) (fun ν1 => by kernel_rfl) (fun ν1 => ⟨hold, trivial⟩) (fun ν1 => trivial) (fun ν1 => ⟨(ho_index_old 22 27 1 (by kernel_rfl) (by kernel_rfl) a M sc i hi), (ho_own (.float .f64 0) 1 8 (by kernel_rfl) (by kernel_rfl) rfl (by decide) ob k sp xs hxs _ 0 1 1 _ _ _ [.float .f64 v] rfl rfl (by simp [Value.oneCell']) (by omega) (by omega)), trivial⟩) ?_
  intro ν1 s1
  refine Goes.seg [] 100000 [] (fr' := ⟨7, #[(.slice (some a) M sc), (r 1), (r 2), (.slice (some ⟨(ν1 6).x, 0, none⟩) (k + 1) ((k + 1 + ((ν1 6).y)))), (.int .i64 (IntKind.i64.wrap ((↑i : Int) + 1))), (.int .i64 ((↑i : Int))), (.slice (some a) M sc), (.int .i64 ((↑M : Int))), (.bool (decide ((↑i : Int) < (↑M : Int)))), (.int .i64 ((↑i : Int))), (.int .i64 (IntKind.i64.wrap ((↑i : Int) + 1))), (.slice (some a) M sc), (.int .i64 ((↑i : Int))), (.pointer (some (a.add (i * 1)))), (.float .f64 v), (.slice (some a) M sc), (.int .i64 ((↑i : Int))), (.pointer (some (a.add (i * 1)))), (.float .f64 v), (.bool true), (.bool true), (.slice (some ⟨ob, 0, none⟩) (k) ((k + sp))), (.int .i64 ((↑k : Int))), (.bool false), (.bool false), (.slice (some a) M sc), (.int .i64 ((↑i : Int))), (.pointer (some (a.add (i * 1)))), (.float .f64 v), (.slice (some ⟨ob, 0, none⟩) (k) ((k + sp))), (.slice (some ⟨ob, 0, none⟩) (k) ((k + sp))), (.int .i64 ((↑k : Int))), (.int .i64 ((↑k1 : Int))), (.pointer (some ⟨ob, (0 + k1), none⟩)), (.float .f64 z), (.bool true), (.bool true), (.bool true), (.slice (some ⟨ob, 0, none⟩) (k) ((k + sp))), (.slice (some a) M sc), (.int .i64 ((↑i : Int))), (.pointer (some (a.add (i * 1)))), (.float .f64 v), (.slice (some ⟨(ν1 5).n, 0, none⟩) (1) (1)), (.slice (some ⟨(ν1 6).x, 0, none⟩) (k + 1) ((k + 1 + ((ν1 6).y)))), (r 45)], [.inLoop (codeAt Tryz.prog 7 [1, 1, 0, 1, 0, 0]), .inBlock 0, .code (codeAt Tryz.prog 7 [1, 1, 1])], [], .run, .normal, none⟩) (cs' := []) (s' := s1) (L' := [((ν1 6).x, (.cells { toList := xs ++ [Value.float FloatKind.f64 v] ++ zc (Value.float FloatKind.f64 0) (ν1 6).y } 27)), ((ν1 5).n, (.cells #[(.float .f64 v)] 27))]) (ob := []) (by kernel_rfl) (by kernel_rfl) trivial ?_
  rw [wrap_succ hi hM]
  refine Goes.pick [0] rfl rfl ?_
  exact Goes.again _ _ rfl rfl rfl (ih (ν1 6).x (ν1 6).y (fun zz => match zz with | 5 => .int .i64 ((↑i : Int)) | 6 => .slice (some a) (M) (sc) | 7 => .int .i64 ((↑M : Int)) | 8 => .bool (decide ((↑i : Int) < (↑M : Int))) | 9 => .int .i64 ((↑i : Int)) | 10 => .int .i64 (((i + 1 : Nat) : Int)) | 11 => .slice (some a) (M) (sc) | 12 => .int .i64 ((↑i : Int)) | 13 => .pointer (some (a.add (i * 1))) | 14 => .float .f64 (v) | 15 => .slice (some a) (M) (sc) | 16 => .int .i64 ((↑i : Int)) | 17 => .pointer (some (a.add (i * 1))) | 18 => .float .f64 (v) | 19 => .bool (true) | 20 => .bool (true) | 21 => .slice (some ⟨ob, 0, none⟩) (k) ((k + sp)) | 22 => .int .i64 ((↑k : Int)) | 23 => .bool (false) | 24 => .bool (false) | 25 => .slice (some a) (M) (sc) | 26 => .int .i64 ((↑i : Int)) | 27 => .pointer (some (a.add (i * 1))) | 28 => .float .f64 (v) | 29 => .slice (some ⟨ob, 0, none⟩) (k) ((k + sp)) | 30 => .slice (some ⟨ob, 0, none⟩) (k) ((k + sp)) | 31 => .int .i64 ((↑k : Int)) | 32 => .int .i64 ((↑k1 : Int)) | 33 => .pointer (some ⟨ob, (0 + k1), none⟩) | 34 => .float .f64 (z) | 35 => .bool (true) | 36 => .bool (true) | 37 => .bool (true) | 38 => .slice (some ⟨ob, 0, none⟩) (k) ((k + sp)) | 39 => .slice (some a) (M) (sc) | 40 => .int .i64 ((↑i : Int)) | 41 => .pointer (some (a.add (i * 1))) | 42 => .float .f64 (v) | 43 => .slice (some ⟨(ν1 5).n, 0, none⟩) (1) (1) | 44 => .slice (some ⟨(ν1 6).x, 0, none⟩) (k + 1) ((k + 1 + ((ν1 6).y))) | zz => r zz) _)

set_option maxRecDepth 100000 in
theorem hf_od (w0 : World) (a : Addr) (M sc v : Nat) (i : Nat) (r : Nat → Value) (s : Nat) (hM : M ≤ 4611686018427387904) (hi : i < M) (ob sp k : Nat) (xs : List Value) (k1 z : Nat) (hk : k = k1 + 1) (hk63 : k < 4611686018427387904) (hget : (⟨xs ++ zc (.float .f64 0) sp⟩ : Array Value)[0 + k1]? = some (.float .f64 z)) (hz : (FloatKind.f64.format.order v z == some Ordering.gt) = false) (hold : w0.cell? (a.add (i * 1)) = some (.float .f64 v)) (hv : (FloatKind.f64.format.order v v == some Ordering.eq) = true)
    (F : List (Nat × Obj)) (cs0 : List Frame) (Φ : Machine → Prop) (ih : ∀ r' s', Goes Tryz.prog w0 F cs0 Φ (hfFr (some a) M sc (.slice (some ⟨ob, 0, none⟩) k (k + sp)) (i + 1) r') [] s' [(ob, .cells ⟨xs ++ zc (.float .f64 0) sp⟩ 27)]) :
    Goes Tryz.prog w0 F cs0 Φ (hfFr (some a) M sc (.slice (some ⟨ob, 0, none⟩) k (k + sp)) i r) [] s [(ob, .cells ⟨xs ++ zc (.float .f64 0) sp⟩ 27)] := by
  have hlt0 : decide ((i : Int) < (M : Int)) = true := decide_eq_true (by omega)
  have heq : Value.bool (FloatKind.f64.format.order v v == some Ordering.eq) = .bool true := by rw [hv]
  have hk0 : Value.bool ((k : Int) == 0) = .bool false := by
    have : ((k : Int) == 0) = false := by simp; omega
    rw [this]
  have hk1 : Value.int .i64 (IntKind.i64.wrap ((k : Int) - 1)) = .int .i64 (k1 : Int) := by
    have : IntKind.i64.wrap ((k : Int) - 1) = (k1 : Int) := by rw [IntKind.wrap_i64]; omega
    rw [this]
  have hk1k : k1 < k := by omega
  have hgt : Value.bool (FloatKind.f64.format.order v z == some Ordering.gt) = .bool false := by rw [hz]
  show Goes Tryz.prog w0 F cs0 Φ ⟨7, #[.slice (some a) M sc, r 1, r 2, .slice (some ⟨ob, 0, none⟩) k (k + sp), .int .i64 i, r 5, r 6, r 7, r 8, r 9, r 10, r 11, r 12, r 13, r 14, r 15, r 16, r 17, r 18, r 19, r 20, r 21, r 22, r 23, r 24, r 25, r 26, r 27, r 28, r 29, r 30, r 31, r 32, r 33, r 34, r 35, r 36, r 37, r 38, r 39, r 40, r 41, r 42, r 43, r 44, r 45], [.code (codeAt Tryz.prog 7 [1, 1, 0, 1, 0, 0]), .inLoop (codeAt Tryz.prog 7 [1, 1, 0, 1, 0, 0]), .inBlock 0, .code (codeAt Tryz.prog 7 [1, 1, 1])], [], .run, .normal, none⟩ [] s [(ob, .cells ⟨xs ++ zc (.float .f64 0) sp⟩ 27)]
  refine Goes.seg [] 16383 [.br true] (fr' := ⟨7, #[(.slice (some a) M sc), (r 1), (r 2), (.slice (some ⟨ob, 0, none⟩) (k) ((k + sp))), (.int .i64 ((↑i : Int))), (.int .i64 ((↑i : Int))), (.slice (some a) M sc), (.int .i64 ((↑M : Int))), (.bool (decide ((↑i : Int) < (↑M : Int)))), (r 9), (r 10), (r 11), (r 12), (r 13), (r 14), (r 15), (r 16), (r 17), (r 18), (r 19), (r 20), (r 21), (r 22), (r 23), (r 24), (r 25), (r 26), (r 27), (r 28), (r 29), (r 30), (r 31), (r 32), (r 33), (r 34), (r 35), (r 36), (r 37), (r 38), (r 39), (r 40), (r 41), (r 42), (r 43), (r 44), (r 45)], [.code (codeAt Tryz.prog 7 [1, 1, 0, 1, 0, 0, 1, 0, 0, 0]), .code (codeAt Tryz.prog 7 [1, 1, 0, 1, 0, 0, 1, 0, 0, 1]), .inBlock 1, .code (codeAt Tryz.prog 7 [1, 1, 0, 1, 0, 0, 1, 1]), .inLoop (codeAt Tryz.prog 7 [1, 1, 0, 1, 0, 0]), .inBlock 0, .code (codeAt Tryz.prog 7 [1, 1, 1])], [], .run, .normal, none⟩) (cs' := []) (s' := s) (L' := [(ob, (.cells { toList := xs ++ zc (Value.float FloatKind.f64 0) sp } 27))]) (ob := [(.test (decide ((↑i : Int) < (↑M : Int))) true)]) (by kernel_rfl) (by kernel_rfl) (by repeat first | exact trivial | (refine And.intro (by first | assumption | rfl) ?_)) ?_
  refine Goes.drawn [.rdo [] [], .rdo [] [], .hand [] [] [] (fun _ => (.pointer (some (a.add (i * 1))), [], [])), .rdo [] [.old (.float .f64 v)], .rdo [] [], .rdo [] [], .hand [] [] [] (fun _ => (.pointer (some (a.add (i * 1))), [], [])), .rdo [] [.old (.float .f64 v)], .rdo [] [.fix 19 (.bool true)], .rdo [] [], .rdo [] [], .rdo [] [], .rdo [] [.fix 23 (.bool false)], .rdo [] [], .rdo [] [], .rdo [] [], .hand [] [] [] (fun _ => (.pointer (some (a.add (i * 1))), [], [])), .rdo [] [.old (.float .f64 v)], .rdo [] [], .rdo [] [], .rdo [] [], .rdo [] [.fix 32 (.int .i64 k1)], .hand [] [] [] (fun _ => (.pointer (some ⟨ob, k1 * 1, none⟩), [], [])), .rdo [0] [.ldv 0 (.float .f64 z)], .rdo [] [.fix 35 (.bool false)], .rdo [] [], .rdo [] []] 0 rfl rfl rfl (by kernel_rfl) (by kernel_rfl) (by kernel_rfl) (fun ν0 => ⟨[(.slice (some a) M sc), (r 1), (r 2), (.slice (some ⟨ob, 0, none⟩) (k) ((k + sp))), (.int .i64 ((↑i : Int))), (.int .i64 ((↑i : Int))), (.slice (some a) M sc), (.int .i64 ((↑M : Int))), (.bool (decide ((↑i : Int) < (↑M : Int)))), (r 9), (r 10), (.slice (some a) M sc), (.int .i64 ((↑i : Int))), (.pointer (some (a.add (i * 1)))), (.float .f64 v), (.slice (some a) M sc), (.int .i64 ((↑i : Int))), (.pointer (some (a.add (i * 1)))), (.float .f64 v), (.bool true), (.bool true), (.slice (some ⟨ob, 0, none⟩) (k) ((k + sp))), (.int .i64 ((↑k : Int))), (.bool false), (.bool false), (.slice (some a) M sc), (.int .i64 ((↑i : Int))), (.pointer (some (a.add (i * 1)))), (.float .f64 v), (.slice (some ⟨ob, 0, none⟩) (k) ((k + sp))), (.slice (some ⟨ob, 0, none⟩) (k) ((k + sp))), (.int .i64 ((↑k : Int))), (.int .i64 ((↑k1 : Int))), (.pointer (some ⟨ob, (0 + k1), none⟩)), (.float .f64 z), (.bool false), (.bool false), (.bool false), (r 38), (r 39), (r 40), (r 41), (r 42), (r 43), (r 44), (r 45)], [some (ob, (.cells { toList := xs ++ zc (Value.float FloatKind.f64 0) sp } 27))]⟩) (fun ν0 => [(.cell (a.add (i * 1)) (.float .f64 v)), (.cell (a.add (i * 1)) (.float .f64 v)), (.val (.bool (FloatKind.f64.format.order v v == some Ordering.eq)) (.bool true)), (.val (.bool ((↑k : Int) == 0)) (.bool false)), (.cell (a.add (i * 1)) (.float .f64 v)), (.val (.int .i64 (IntKind.i64.wrap ((↑k : Int) - 1))) (.int .i64 ((↑k1 : Int)))), (.get ({ toList := xs ++ zc (Value.float FloatKind.f64 0) sp }) ((0 + k1)) (.float .f64 z)), (.val (.bool (FloatKind.f64.format.order v z == some Ordering.gt)) (.bool false))]) (fun ν0 => []) (fun ν0 => [⟨(indexSem 22 (.slice (some a) M sc) (.int .i64 i)), [], [], (fun _ => (.pointer (some (a.add (i * 1))), [], []))⟩, ⟨(indexSem 22 (.slice (some a) M sc) (.int .i64 i)), [], [], (fun _ => (.pointer (some (a.add (i * 1))), [], []))⟩, ⟨(indexSem 22 (.slice (some a) M sc) (.int .i64 i)), [], [], (fun _ => (.pointer (some (a.add (i * 1))), [], []))⟩, ⟨(indexSem 22 (.slice (some ⟨ob, 0, none⟩) k (k + sp)) (.int .i64 k1)), [], [], (fun _ => (.pointer (some ⟨ob, k1 * 1, none⟩), [], []))⟩]) (fun ν0 => by kernel_rfl) (fun ν0 => by kernel_rfl) (fun ν0 => ⟨hold, hold, heq, hk0, hold, hk1, hget, hgt, trivial⟩) (fun ν0 => trivial) (fun ν0 => ⟨(ho_index_old 22 27 1 (by kernel_rfl) (by kernel_rfl) a M sc i hi), (ho_index_old 22 27 1 (by kernel_rfl) (by kernel_rfl) a M sc i hi), (ho_index_old 22 27 1 (by kernel_rfl) (by kernel_rfl) a M sc i hi), (ho_index 22 27 1 (by kernel_rfl) (by kernel_rfl) ob k (k + sp) k1 hk1k), trivial⟩) ?_
  intro ν0 s0
  refine Goes.seg [] 100000 [.brc false] (fr' := ⟨7, #[(.slice (some a) M sc), (r 1), (r 2), (.slice (some ⟨ob, 0, none⟩) (k) ((k + sp))), (.int .i64 (IntKind.i64.wrap ((↑i : Int) + 1))), (.int .i64 ((↑i : Int))), (.slice (some a) M sc), (.int .i64 ((↑M : Int))), (.bool (decide ((↑i : Int) < (↑M : Int)))), (.int .i64 ((↑i : Int))), (.int .i64 (IntKind.i64.wrap ((↑i : Int) + 1))), (.slice (some a) M sc), (.int .i64 ((↑i : Int))), (.pointer (some (a.add (i * 1)))), (.float .f64 v), (.slice (some a) M sc), (.int .i64 ((↑i : Int))), (.pointer (some (a.add (i * 1)))), (.float .f64 v), (.bool true), (.bool true), (.slice (some ⟨ob, 0, none⟩) (k) ((k + sp))), (.int .i64 ((↑k : Int))), (.bool false), (.bool false), (.slice (some a) M sc), (.int .i64 ((↑i : Int))), (.pointer (some (a.add (i * 1)))), (.float .f64 v), (.slice (some ⟨ob, 0, none⟩) (k) ((k + sp))), (.slice (some ⟨ob, 0, none⟩) (k) ((k + sp))), (.int .i64 ((↑k : Int))), (.int .i64 ((↑k1 : Int))), (.pointer (some ⟨ob, (0 + k1), none⟩)), (.float .f64 z), (.bool false), (.bool false), (.bool false), (r 38), (r 39), (r 40), (r 41), (r 42), (r 43), (r 44), (r 45)], [.inLoop (codeAt Tryz.prog 7 [1, 1, 0, 1, 0, 0]), .inBlock 0, .code (codeAt Tryz.prog 7 [1, 1, 1])], [], .run, .normal, none⟩) (cs' := []) (s' := s0) (L' := [(ob, (.cells { toList := xs ++ zc (Value.float FloatKind.f64 0) sp } 27))]) (ob := []) (by kernel_rfl) (by kernel_rfl) trivial ?_
  rw [wrap_succ hi hM]
  refine Goes.pick [0] rfl rfl ?_
  exact Goes.again _ _ rfl rfl rfl (ih (fun zz => match zz with | 5 => .int .i64 ((↑i : Int)) | 6 => .slice (some a) (M) (sc) | 7 => .int .i64 ((↑M : Int)) | 8 => .bool (decide ((↑i : Int) < (↑M : Int))) | 9 => .int .i64 ((↑i : Int)) | 10 => .int .i64 (((i + 1 : Nat) : Int)) | 11 => .slice (some a) (M) (sc) | 12 => .int .i64 ((↑i : Int)) | 13 => .pointer (some (a.add (i * 1))) | 14 => .float .f64 (v) | 15 => .slice (some a) (M) (sc) | 16 => .int .i64 ((↑i : Int)) | 17 => .pointer (some (a.add (i * 1))) | 18 => .float .f64 (v) | 19 => .bool (true) | 20 => .bool (true) | 21 => .slice (some ⟨ob, 0, none⟩) (k) ((k + sp)) | 22 => .int .i64 ((↑k : Int)) | 23 => .bool (false) | 24 => .bool (false) | 25 => .slice (some a) (M) (sc) | 26 => .int .i64 ((↑i : Int)) | 27 => .pointer (some (a.add (i * 1))) | 28 => .float .f64 (v) | 29 => .slice (some ⟨ob, 0, none⟩) (k) ((k + sp)) | 30 => .slice (some ⟨ob, 0, none⟩) (k) ((k + sp)) | 31 => .int .i64 ((↑k : Int)) | 32 => .int .i64 ((↑k1 : Int)) | 33 => .pointer (some ⟨ob, (0 + k1), none⟩) | 34 => .float .f64 (z) | 35 => .bool (false) | 36 => .bool (false) | 37 => .bool (false) | zz => r zz) _)

set_option maxRecDepth 100000 in
theorem hf_e (w0 : World) (la : Option Addr) (M sc : Nat) (i : Nat) (r : Nat → Value) (s : Nat) (hi : ¬ i < M) (ob sp k : Nat) (xs : List Value) (F : List (Nat × Obj)) (cs0 : List Frame) (R : Ending → World → Prop)
    (hR : ∀ w', Good w0 s ([(ob, .cells ⟨xs ++ zc (.float .f64 0) sp⟩ 27)] ++ F) w' → R (.returned (.slice (some ⟨ob, 0, none⟩) k (k + sp))) w') :
    Goes Tryz.prog w0 F cs0 (Ends Tryz.prog 7 R cs0) (hfFr la M sc (.slice (some ⟨ob, 0, none⟩) k (k + sp)) i r) [] s [(ob, .cells ⟨xs ++ zc (.float .f64 0) sp⟩ 27)] := by
  have hlt0 : decide ((i : Int) < (M : Int)) = false := decide_eq_false (by omega)
  show Goes Tryz.prog w0 F cs0 _ ⟨7, #[.slice la M sc, r 1, r 2, .slice (some ⟨ob, 0, none⟩) k (k + sp), .int .i64 i, r 5, r 6, r 7, r 8, r 9, r 10, r 11, r 12, r 13, r 14, r 15, r 16, r 17, r 18, r 19, r 20, r 21, r 22, r 23, r 24, r 25, r 26, r 27, r 28, r 29, r 30, r 31, r 32, r 33, r 34, r 35, r 36, r 37, r 38, r 39, r 40, r 41, r 42, r 43, r 44, r 45], [.code (codeAt Tryz.prog 7 [1, 1, 0, 1, 0, 0]), .inLoop (codeAt Tryz.prog 7 [1, 1, 0, 1, 0, 0]), .inBlock 0, .code (codeAt Tryz.prog 7 [1, 1, 1])], [], .run, .normal, none⟩ [] s [(ob, .cells ⟨xs ++ zc (.float .f64 0) sp⟩ 27)]
  refine Goes.last [] 100000 [.br false] (v := (.slice (some ⟨ob, 0, none⟩) (k) ((k + sp)))) (s' := s) (L' := [(ob, (.cells { toList := xs ++ zc (Value.float FloatKind.f64 0) sp } 27))]) (ob := [(.test (decide ((↑i : Int) < (↑M : Int))) false)]) (by kernel_rfl) (by kernel_rfl) (by repeat first | exact trivial | (refine And.intro (by first | assumption | rfl) ?_)) ?_
  exact hR

set_option maxRecDepth 100000 in
theorem hf_z (w0 : World) (la : Option Addr) (M sc : Nat) (i : Nat) (r : Nat → Value) (s : Nat) (hi : ¬ i < M) (F : List (Nat × Obj)) (cs0 : List Frame) (R : Ending → World → Prop)
    (hR : ∀ w', Good w0 s ([] ++ F) w' → R (.returned (.slice none 0 0)) w') :
    Goes Tryz.prog w0 F cs0 (Ends Tryz.prog 7 R cs0) (hfFr la M sc (.slice none 0 0) i r) [] s [] := by
  have hlt0 : decide ((i : Int) < (M : Int)) = false := decide_eq_false (by omega)
  show Goes Tryz.prog w0 F cs0 _ ⟨7, #[.slice la M sc, r 1, r 2, .slice none 0 0, .int .i64 i, r 5, r 6, r 7, r 8, r 9, r 10, r 11, r 12, r 13, r 14, r 15, r 16, r 17, r 18, r 19, r 20, r 21, r 22, r 23, r 24, r 25, r 26, r 27, r 28, r 29, r 30, r 31, r 32, r 33, r 34, r 35, r 36, r 37, r 38, r 39, r 40, r 41, r 42, r 43, r 44, r 45], [.code (codeAt Tryz.prog 7 [1, 1, 0, 1, 0, 0]), .inLoop (codeAt Tryz.prog 7 [1, 1, 0, 1, 0, 0]), .inBlock 0, .code (codeAt Tryz.prog 7 [1, 1, 1])], [], .run, .normal, none⟩ [] s []
  refine Goes.last [] 100000 [.br false] (v := (.slice none 0 0)) (s' := s) (L' := []) (ob := [(.test (decide ((↑i : Int) < (↑M : Int))) false)]) (by kernel_rfl) (by kernel_rfl) (by repeat first | exact trivial | (refine And.intro (by first | assumption | rfl) ?_)) ?_
  exact hR

/-- Whether a number goes behind the bounds so far. -/
def fitsB (k : Nat) (y : Nat → Nat) (v : Nat) : Bool := (FloatKind.f64.format.order v v == some Ordering.eq) && (decide (k = 0) || (FloatKind.f64.format.order v (y (k - 1)) == some Ordering.gt))

/-- What HistFits keeps of the first numbers. -/
def fits (l : Nat → Nat) : Nat → Nat × (Nat → Nat)
  | 0 => (0, fun _ => 0)
  | m + 1 => if fitsB (fits l m).1 (fits l m).2 (l m) then ((fits l m).1 + 1, fun j => if j = (fits l m).1 then l m else (fits l m).2 j) else fits l m

theorem fits_le (l : Nat → Nat) : ∀ m, (fits l m).1 ≤ m
  | 0 => Nat.le_refl 0
  | m + 1 => by
    have := fits_le l m
    simp only [fits]
    split
    · exact Nat.succ_le_succ this
    · omega

theorem fits_inc (l : Nat → Nat) : ∀ m, Inc (fits l m).2 (fits l m).1
  | 0 => fun i hi => by simp [fits] at hi
  | m + 1 => by
    have h := fits_inc l m
    simp only [fits]
    split
    · rename_i hb
      intro i hi
      simp only at hi ⊢
      rw [if_neg (by omega)]
      by_cases e : i + 1 = (fits l m).1
      · rw [if_pos e]
        simp only [fitsB, Bool.and_eq_true, Bool.or_eq_true, decide_eq_true_eq] at hb
        have h2 : (FloatKind.f64.format.order (l m) ((fits l m).2 ((fits l m).1 - 1)) == some Ordering.gt) = true := by
          rcases hb.2 with h0 | h0
          · omega
          · exact h0
        rw [show (fits l m).1 - 1 = i by omega] at h2
        rw [← fgt_eq]
        exact h2
      · rw [if_neg e]
        exact h i (by omega)
    · exact h

theorem fl_fits (y : Nat → Nat) (k v : Nat) : fl (fun j => if j = k then v else y j) (k + 1) = fl y k ++ [.float .f64 v] := by
  rw [fl_succ]
  congr 1
  · apply List.map_congr_left
    intro i hi
    have : ¬ i = k := by have := List.mem_range.1 hi; omega
    simp [this]
  · simp

/-- HistFits: numbers made increasing bounds. -/
theorem c_histFits (w0 : World) (la : Option Addr) (M sc : Nat) (l : Nat → Nat) (hM : M + 1 ≤ 1099511627776) (hold : ∀ a, la = some a → ∀ i, i < M → w0.cell? (a.add (i * 1)) = some (.float .f64 (l i))) (hla : la = none → M = 0) (s : Nat) (F : List (Nat × Obj)) (w : World) (g : Good w0 s F w) :
    Calls Tryz.prog 7 #[.slice la M sc] w fun e w' => ∃ v' : PU, ∃ s', v'.n = s ∧ e = .returned (hwVal v'.x (fits l M).1 v'.y) ∧ Good w0 s' (hwObj (fits l M).2 v'.x (fits l M).1 v'.y ++ F) w' := by
  refine Goes.calls (L := []) (F := F) g fun cs0 => ?_
  refine Goes.seg [] 100000 [] (fr' := ⟨7, #[(.slice la M sc), u, (.slice none 0 0), (.slice none 0 0), (.int .i64 0), u, u, u, u, u, u, u, u, u, u, u, u, u, u, u, u, u, u, u, u, u, u, u, u, u, u, u, u, u, u, u, u, u, u, u, u, u, u, u, u, u], [.code (codeAt Tryz.prog 7 [1, 1, 0, 1, 0]), .inBlock 0, .code (codeAt Tryz.prog 7 [1, 1, 1])], [], .run, .normal, none⟩) (cs' := []) (s' := s) (L' := []) (ob := []) (by kernel_rfl) (by kernel_rfl) trivial ?_
  refine Goes.first _ _ rfl rfl rfl ?_
  have nilv : ∀ (b sp k : Nat) (y : Nat → Nat), k = 0 → hwVal b k sp = .slice none 0 0 ∧ hwObj y b k sp = [] := fun b sp k y hk => by
    subst hk
    exact ⟨rfl, rfl⟩
  have ownv : ∀ (b sp k : Nat) (y : Nat → Nat), 0 < k → hwVal b k sp = .slice (some ⟨b, 0, none⟩) k (k + sp) ∧ hwObj y b k sp = [(b, .cells ⟨fl y k ++ zc (.float .f64 0) sp⟩ 27)] := fun b sp k y hk => by
    have hne : ¬ k = 0 := by omega
    simp only [hwVal, hwObj, hne, if_false]
    exact ⟨trivial, trivial⟩
  have key : ∀ (m i b sp : Nat) (r : Nat → Value) (s1 : Nat), M - i = m → i ≤ M →
      Goes Tryz.prog w0 F cs0 (Ends Tryz.prog 7 (fun e w' => ∃ v' : PU, ∃ s', v'.n = s ∧ e = .returned (hwVal v'.x (fits l M).1 v'.y) ∧ Good w0 s' (hwObj (fits l M).2 v'.x (fits l M).1 v'.y ++ F) w') cs0)
        (hfFr la M sc (hwVal b (fits l i).1 sp) i r) [] s1 (hwObj (fits l i).2 b (fits l i).1 sp) := by
    intro m
    induction m using Nat.strongRecOn with
    | _ m ih =>
      intro i b sp r s1 hm hiM
      by_cases hi : i < M
      · obtain ⟨a, rfl⟩ : ∃ a, la = some a := by
          cases la with
          | none => have := hla rfl; omega
          | some a => exact ⟨a, rfl⟩
        have hc := hold a rfl i hi
        have next := fun b' sp' r' s' => ih (M - (i + 1)) (by omega) (i + 1) b' sp' r' s' rfl (by omega)
        have hkl := fits_le l i
        by_cases hk : (fits l i).1 = 0
        · obtain ⟨e1, e2⟩ := nilv b sp (fits l i).1 (fits l i).2 hk
          rw [e1, e2]
          cases hv : (FloatKind.f64.format.order (l i) (l i) == some Ordering.eq) with
          | false =>
            have hf : fits l (i + 1) = fits l i := by simp only [fits, fitsB, hv, Bool.false_and, Bool.false_eq_true, if_false]
            refine hf_na w0 a M sc (l i) i r s1 (by omega) hi hc hv F cs0 _ fun r' s' => ?_
            have h := next b sp r' s'
            rw [hf, e1, e2] at h
            exact h
          | true =>
            have hf : fits l (i + 1) = (1, fun j => if j = 0 then l i else (fits l i).2 j) := by simp only [fits, fitsB, hv, hk, decide_true, Bool.true_or, Bool.and_self, if_true]
            refine hf_nb w0 a M sc (l i) i r s1 (by omega) hi hc hv F cs0 _ fun b' sp' r' s' => ?_
            have h := next b' sp' r' s'
            rw [hf] at h
            obtain ⟨e3, e4⟩ := ownv b' sp' 1 (fun j => if j = 0 then l i else (fits l i).2 j) (by decide)
            rw [e3, e4, fl_fits (fits l i).2 0 (l i)] at h
            exact h
        · obtain ⟨e1, e2⟩ := ownv b sp (fits l i).1 (fits l i).2 (Nat.pos_of_ne_zero hk)
          rw [e1, e2]
          cases hv : (FloatKind.f64.format.order (l i) (l i) == some Ordering.eq) with
          | false =>
            have hf : fits l (i + 1) = fits l i := by simp only [fits, fitsB, hv, Bool.false_and, Bool.false_eq_true, if_false]
            refine hf_oa w0 a M sc (l i) i r s1 (by omega) hi b sp _ _ hc hv F cs0 _ fun r' s' => ?_
            have h := next b sp r' s'
            rw [hf, e1, e2] at h
            exact h
          | true =>
            have hget : (⟨fl (fits l i).2 (fits l i).1 ++ zc (.float .f64 0) sp⟩ : Array Value)[0 + ((fits l i).1 - 1)]? = some (.float .f64 ((fits l i).2 ((fits l i).1 - 1))) := by
              rw [← Array.getElem?_toList]
              show (fl (fits l i).2 (fits l i).1 ++ zc (.float .f64 0) sp)[0 + ((fits l i).1 - 1)]? = _
              have hlt : (fits l i).1 - 1 < (fits l i).1 := by omega
              rw [Nat.zero_add, List.getElem?_append_left (by simpa [fl] using hlt)]
              simp [fl, hlt]
            cases hz : (FloatKind.f64.format.order (l i) ((fits l i).2 ((fits l i).1 - 1)) == some Ordering.gt) with
            | false =>
              have hf : fits l (i + 1) = fits l i := by simp only [fits, fitsB, hv, hk, hz, decide_false, Bool.false_or, Bool.and_false, Bool.false_eq_true, if_false]
              refine hf_od w0 a M sc (l i) i r s1 (by omega) hi b sp _ _ ((fits l i).1 - 1) _ (by omega) (by omega) hget hz hc hv F cs0 _ fun r' s' => ?_
              have h := next b sp r' s'
              rw [hf, e1, e2] at h
              exact h
            | true =>
              have hf : fits l (i + 1) = ((fits l i).1 + 1, fun j => if j = (fits l i).1 then l i else (fits l i).2 j) := by simp only [fits, fitsB, hv, hk, hz, decide_false, Bool.false_or, Bool.and_self, if_true]
              refine hf_oc w0 a M sc (l i) i r s1 (by omega) hi b sp _ _ ((fits l i).1 - 1) _ (by omega) (by omega) hget hz (by omega) (by simp [fl]) hc hv F cs0 _ fun b' sp' r' s' => ?_
              have h := next b' sp' r' s'
              rw [hf] at h
              obtain ⟨e3, e4⟩ := ownv b' sp' ((fits l i).1 + 1) (fun j => if j = (fits l i).1 then l i else (fits l i).2 j) (by omega)
              rw [e3, e4, fl_fits (fits l i).2 (fits l i).1 (l i)] at h
              exact h
      · have e : i = M := by omega
        subst e
        by_cases hk : (fits l i).1 = 0
        · obtain ⟨e1, e2⟩ := nilv b sp (fits l i).1 (fits l i).2 hk
          rw [e1, e2]
          refine hf_z w0 la i sc i r s1 hi F cs0 _ fun w' g' => ?_
          exact ⟨⟨s, b, sp, undef, [], fun _ => 0⟩, s1, rfl, by rw [e1], by rw [e2]; exact g'⟩
        · obtain ⟨e1, e2⟩ := ownv b sp (fits l i).1 (fits l i).2 (Nat.pos_of_ne_zero hk)
          rw [e1, e2]
          refine hf_e w0 la i sc i r s1 hi b sp _ _ F cs0 _ fun w' g' => ?_
          exact ⟨⟨s, b, sp, undef, [], fun _ => 0⟩, s1, rfl, by rw [e1], by rw [e2]; exact g'⟩
  exact key M 0 0 0 (fun z => match z with | 2 => .slice none 0 0 | _ => u) s rfl (Nat.zero_le _)

end Go.Sx

namespace Go.Sx
open Go Go.Proofs Go.Fl
open Go.Lib (strCells)

set_option maxRecDepth 100000 in
theorem c_histInf_true (w0 : World) (z : Nat) (hinf : (FloatKind.f64.format.order z 9218868437227405311 == some Ordering.gt) = true) (s : Nat) (F : List (Nat × Obj)) (w : World) (g : Good w0 s F w) :
    Calls Tryz.prog 15 #[.float .f64 z] w fun e w' => ∃ v' : PU, ∃ s', v'.n = s ∧ e = .returned (.bool true) ∧ Good w0 s' F w' := by
  have h4 : Value.bool (FloatKind.f64.format.order z 9218868437227405311 == some Ordering.gt) = .bool true := by rw [hinf]
  refine Goes.calls (L := []) (F := F) g fun cs0 => ?_
  refine Goes.last [] 100000 [.fix 4 (.bool true)] (v := (.bool true)) (s' := s) (L' := []) (ob := [(.val (.bool (FloatKind.f64.format.order z 9218868437227405311 == some Ordering.gt)) (.bool true))]) (by kernel_rfl) (by kernel_rfl) (by repeat first | exact trivial | (refine And.intro (by first | assumption | rfl) ?_)) ?_
  intro w' g'
  exact ⟨⟨s, 0, 0, undef, [], fun _ => 0⟩, s, rfl, rfl, g'⟩

set_option maxRecDepth 100000 in
theorem c_histInf_false (w0 : World) (z : Nat) (hinf : (FloatKind.f64.format.order z 9218868437227405311 == some Ordering.gt) = false ∧ (FloatKind.f64.format.order z 18442240474082181119 == some Ordering.lt) = false) (s : Nat) (F : List (Nat × Obj)) (w : World) (g : Good w0 s F w) :
    Calls Tryz.prog 15 #[.float .f64 z] w fun e w' => ∃ v' : PU, ∃ s', v'.n = s ∧ e = .returned (.bool false) ∧ Good w0 s' F w' := by
  have h4 : Value.bool (FloatKind.f64.format.order z 9218868437227405311 == some Ordering.gt) = .bool false := by rw [hinf.1]
  have h7 : Value.bool (FloatKind.f64.format.order z 18442240474082181119 == some Ordering.lt) = .bool false := by rw [hinf.2]
  refine Goes.calls (L := []) (F := F) g fun cs0 => ?_
  refine Goes.last [] 100000 [.fix 4 (.bool false), .fix 7 (.bool false)] (v := (.bool false)) (s' := s) (L' := []) (ob := [(.val (.bool (FloatKind.f64.format.order z 18442240474082181119 == some Ordering.lt)) (.bool false)), (.val (.bool (FloatKind.f64.format.order z 9218868437227405311 == some Ordering.gt)) (.bool false))]) (by kernel_rfl) (by kernel_rfl) (by repeat first | exact trivial | (refine And.intro (by first | assumption | rfl) ?_)) ?_
  intro w' g'
  exact ⟨⟨s, 0, 0, undef, [], fun _ => 0⟩, s, rfl, rfl, g'⟩

set_option maxRecDepth 100000 in
/-- HistBounds at no bounds. -/
theorem c_bounds_nil (w0 : World) (s : Nat) (F : List (Nat × Obj)) (w : World) (g : Good w0 s F w) :
    Calls Tryz.prog 6 #[.slice none 0 0, .bool true] w fun e w' => ∃ v' : PU, ∃ s', v'.n = s ∧ e = .returned (.slice none 0 0) ∧ Good w0 s' F w' := by
  refine Goes.calls (L := []) (F := F) g fun cs0 => ?_
  refine Goes.last [15] 100000 [.brc true, .brc true] (v := (.slice none 0 0)) (s' := s) (L' := []) (ob := []) (by kernel_rfl) (by kernel_rfl) trivial ?_
  intro w' g'
  exact ⟨⟨s, 0, 0, undef, [], fun _ => 0⟩, s, rfl, rfl, g'⟩

set_option maxRecDepth 100000 in
theorem c_bounds_n (w0 : World) (ob k k1 c z : Nat) (cs : List Value) (hk : k = k1 + 1) (hk63 : k ≤ 4611686018427387904) (hkc : k ≤ c) (hget : (⟨cs⟩ : Array Value)[0 + k1]? = some (.float .f64 z)) (h18 : (FloatKind.f64.format.order z 0 == some Ordering.gt) = false) (s : Nat) (F : List (Nat × Obj)) (w : World) (g : Good w0 s ([(ob, .cells ⟨cs⟩ 27)] ++ F) w) :
    Calls Tryz.prog 6 #[.slice (some ⟨ob, 0, none⟩) k c, .bool true] w fun e w' => ∃ v' : PU, ∃ s', v'.n = s ∧ e = .returned (.slice (some ⟨ob, 0, none⟩) k c) ∧ Good w0 s' ([(ob, .cells ⟨cs⟩ 27)] ++ F) w' := by
  have hk0 : Value.bool ((k : Int) == 0) = .bool false := by
    have : ((k : Int) == 0) = false := by simp; omega
    rw [this]
  have hk1 : Value.int .i64 (IntKind.i64.wrap ((k : Int) - 1)) = .int .i64 (k1 : Int) := by
    have : IntKind.i64.wrap ((k : Int) - 1) = (k1 : Int) := by rw [IntKind.wrap_i64]; omega
    rw [this]
  have hk1k : k1 < k := by omega
  have hgt : Value.bool (FloatKind.f64.format.order z 0 == some Ordering.gt) = .bool false := by rw [h18]
  refine Goes.calls (L := [(ob, .cells ⟨cs⟩ 27)]) (F := F) g fun cs0 => ?_
  refine Goes.seg [15] 20 [.fix 8 (.bool false), .brc false, .fix 14 (.int .i64 ((↑k1 : Int)))] (fr' := ⟨6, #[(.slice (some ⟨ob, 0, none⟩) k c), (.bool true), u, u, (.slice none 0 0), u, (.slice (some ⟨ob, 0, none⟩) k c), (.int .i64 ((↑k : Int))), (.bool false), u, u, (.slice (some ⟨ob, 0, none⟩) k c), (.slice (some ⟨ob, 0, none⟩) k c), (.int .i64 ((↑k : Int))), (.int .i64 ((↑k1 : Int))), u, u, u, u, u, u, u, u, u, u, u, u, u, u], [.inRegion (opsAt Tryz.prog 6 [1, 1, 0, 0]) [4, 5, 6], .code (codeAt Tryz.prog 6 [1, 1, 0, 1]), .code (codeAt Tryz.prog 6 [1, 1, 1])], [], .run, .normal, none⟩) (cs' := []) (s' := s) (L' := [(ob, (.cells { toList := cs } 27))]) (ob := [(.val (.int .i64 (IntKind.i64.wrap ((↑k : Int) - 1))) (.int .i64 ((↑k1 : Int)))), (.val (.bool ((↑k : Int) == 0)) (.bool false))]) (by kernel_rfl) (by kernel_rfl) (by repeat first | exact trivial | (refine And.intro (by first | assumption | rfl) ?_)) ?_
  refine Goes.inOrder [.rdo [] [], .rdo [] [], .rdo [] [], .rdo [] [], .hand [] [] [] (fun _ => (.pointer (some ⟨ob, k1 * 1, none⟩), [], [])), .rdo [0] [.ldv 0 (.float .f64 z)], .rdo [] []] 0 rfl rfl rfl rfl (fun ν0 => ⟨[(.slice (some ⟨ob, 0, none⟩) k c), (.bool true), u, u, (.slice none 0 0), (.float .f64 z), (.slice (some ⟨ob, 0, none⟩) k c), (.int .i64 ((↑k : Int))), (.bool false), u, u, (.slice (some ⟨ob, 0, none⟩) k c), (.slice (some ⟨ob, 0, none⟩) k c), (.int .i64 ((↑k : Int))), (.int .i64 ((↑k1 : Int))), (.pointer (some ⟨ob, (0 + k1), none⟩)), (.float .f64 z), u, u, u, u, u, u, u, u, u, u, u, u], [some (ob, (.cells { toList := cs } 27))]⟩) (fun ν0 => [(.get ({ toList := cs }) ((0 + k1)) (.float .f64 z))]) (fun ν0 => []) (fun ν0 => [⟨(indexSem 22 (.slice (some ⟨ob, 0, none⟩) k c) (.int .i64 k1)), [], [], (fun _ => (.pointer (some ⟨ob, k1 * 1, none⟩), [], []))⟩]) (fun ν0 => by kernel_rfl) (fun ν0 => by kernel_rfl) (fun ν0 => ⟨hget, trivial⟩) (fun ν0 => trivial) (fun ν0 => ⟨(ho_index 22 27 1 (by kernel_rfl) (by kernel_rfl) ob k c k1 hk1k), trivial⟩) ?_
  intro ν0 s0
  refine Goes.last [15] 100000 [.fix 18 (.bool false), .brc false] (v := (.slice (some ⟨ob, 0, none⟩) k c)) (s' := s0) (L' := [(ob, (.cells { toList := cs } 27))]) (ob := [(.val (.bool (FloatKind.f64.format.order z 0 == some Ordering.gt)) (.bool false))]) (by kernel_rfl) (by kernel_rfl) (by repeat first | exact trivial | (refine And.intro (by first | assumption | rfl) ?_)) ?_
  intro w' g'
  exact ⟨⟨s, 0, 0, undef, [], fun _ => 0⟩, _, rfl, rfl, g'⟩

set_option maxRecDepth 100000 in
theorem c_bounds_m (w0 : World) (ob k k1 c z : Nat) (cs : List Value) (hk : k = k1 + 1) (hk63 : k ≤ 4611686018427387904) (hkc : k ≤ c) (hget : (⟨cs⟩ : Array Value)[0 + k1]? = some (.float .f64 z)) (h18 : (FloatKind.f64.format.order z 0 == some Ordering.gt) = true) (hinf : (FloatKind.f64.format.order z 9218868437227405311 == some Ordering.gt) = false ∧ (FloatKind.f64.format.order z 18442240474082181119 == some Ordering.lt) = false) (s : Nat) (F : List (Nat × Obj)) (w : World) (g : Good w0 s ([(ob, .cells ⟨cs⟩ 27)] ++ F) w) :
    Calls Tryz.prog 6 #[.slice (some ⟨ob, 0, none⟩) k c, .bool true] w fun e w' => ∃ v' : PU, ∃ s', v'.n = s ∧ e = .returned (.slice (some ⟨ob, 0, none⟩) k c) ∧ Good w0 s' ([(ob, .cells ⟨cs⟩ 27)] ++ F) w' := by
  have hk0 : Value.bool ((k : Int) == 0) = .bool false := by
    have : ((k : Int) == 0) = false := by simp; omega
    rw [this]
  have hk1 : Value.int .i64 (IntKind.i64.wrap ((k : Int) - 1)) = .int .i64 (k1 : Int) := by
    have : IntKind.i64.wrap ((k : Int) - 1) = (k1 : Int) := by rw [IntKind.wrap_i64]; omega
    rw [this]
  have hk1k : k1 < k := by omega
  have hgt : Value.bool (FloatKind.f64.format.order z 0 == some Ordering.gt) = .bool true := by rw [h18]
  refine Goes.calls (L := [(ob, .cells ⟨cs⟩ 27)]) (F := F) g fun cs0 => ?_
  refine Goes.seg [15] 20 [.fix 8 (.bool false), .brc false, .fix 14 (.int .i64 ((↑k1 : Int)))] (fr' := ⟨6, #[(.slice (some ⟨ob, 0, none⟩) k c), (.bool true), u, u, (.slice none 0 0), u, (.slice (some ⟨ob, 0, none⟩) k c), (.int .i64 ((↑k : Int))), (.bool false), u, u, (.slice (some ⟨ob, 0, none⟩) k c), (.slice (some ⟨ob, 0, none⟩) k c), (.int .i64 ((↑k : Int))), (.int .i64 ((↑k1 : Int))), u, u, u, u, u, u, u, u, u, u, u, u, u, u], [.inRegion (opsAt Tryz.prog 6 [1, 1, 0, 0]) [4, 5, 6], .code (codeAt Tryz.prog 6 [1, 1, 0, 1]), .code (codeAt Tryz.prog 6 [1, 1, 1])], [], .run, .normal, none⟩) (cs' := []) (s' := s) (L' := [(ob, (.cells { toList := cs } 27))]) (ob := [(.val (.int .i64 (IntKind.i64.wrap ((↑k : Int) - 1))) (.int .i64 ((↑k1 : Int)))), (.val (.bool ((↑k : Int) == 0)) (.bool false))]) (by kernel_rfl) (by kernel_rfl) (by repeat first | exact trivial | (refine And.intro (by first | assumption | rfl) ?_)) ?_
  refine Goes.inOrder [.rdo [] [], .rdo [] [], .rdo [] [], .rdo [] [], .hand [] [] [] (fun _ => (.pointer (some ⟨ob, k1 * 1, none⟩), [], [])), .rdo [0] [.ldv 0 (.float .f64 z)], .rdo [] []] 0 rfl rfl rfl rfl (fun ν0 => ⟨[(.slice (some ⟨ob, 0, none⟩) k c), (.bool true), u, u, (.slice none 0 0), (.float .f64 z), (.slice (some ⟨ob, 0, none⟩) k c), (.int .i64 ((↑k : Int))), (.bool false), u, u, (.slice (some ⟨ob, 0, none⟩) k c), (.slice (some ⟨ob, 0, none⟩) k c), (.int .i64 ((↑k : Int))), (.int .i64 ((↑k1 : Int))), (.pointer (some ⟨ob, (0 + k1), none⟩)), (.float .f64 z), u, u, u, u, u, u, u, u, u, u, u, u], [some (ob, (.cells { toList := cs } 27))]⟩) (fun ν0 => [(.get ({ toList := cs }) ((0 + k1)) (.float .f64 z))]) (fun ν0 => []) (fun ν0 => [⟨(indexSem 22 (.slice (some ⟨ob, 0, none⟩) k c) (.int .i64 k1)), [], [], (fun _ => (.pointer (some ⟨ob, k1 * 1, none⟩), [], []))⟩]) (fun ν0 => by kernel_rfl) (fun ν0 => by kernel_rfl) (fun ν0 => ⟨hget, trivial⟩) (fun ν0 => trivial) (fun ν0 => ⟨(ho_index 22 27 1 (by kernel_rfl) (by kernel_rfl) ob k c k1 hk1k), trivial⟩) ?_
  intro ν0 s0
  refine Goes.seg [15] 100000 [.fix 18 (.bool true)] (fr' := ⟨6, #[(.slice (some ⟨ob, 0, none⟩) k c), (.bool true), u, u, (.slice none 0 0), (.float .f64 z), (.slice (some ⟨ob, 0, none⟩) k c), (.int .i64 ((↑k : Int))), (.bool false), u, u, (.slice (some ⟨ob, 0, none⟩) k c), (.slice (some ⟨ob, 0, none⟩) k c), (.int .i64 ((↑k : Int))), (.int .i64 ((↑k1 : Int))), (.pointer (some ⟨ob, (0 + k1), none⟩)), (.float .f64 z), (.float .f64 z), (.bool true), (.bool true), (.float .f64 z), u, u, u, u, u, u, u, u], [.inRegion (opsAt Tryz.prog 6 [1, 1, 0, 1, 0]) [4, 5], .code (codeAt Tryz.prog 6 [1, 1, 0, 1, 1]), .code (codeAt Tryz.prog 6 [1, 1, 1])], [], .run, .normal, none⟩) (cs' := []) (s' := s0) (L' := [(ob, (.cells { toList := cs } 27))]) (ob := [(.val (.bool (FloatKind.f64.format.order z 0 == some Ordering.gt)) (.bool true))]) (by kernel_rfl) (by kernel_rfl) (by repeat first | exact trivial | (refine And.intro (by first | assumption | rfl) ?_)) ?_
  refine Goes.inOrder [.rdo [] [], .rdo [] [], .rdo [] [], .rdo [] [], .call [] [] [] 15 (fun _ => (.bool false, [], [])), .rdo [] []] 0 rfl rfl rfl rfl (fun ν1 => ⟨[(.slice (some ⟨ob, 0, none⟩) k c), (.bool true), u, u, (.slice none 0 0), (.float .f64 z), (.slice (some ⟨ob, 0, none⟩) k c), (.int .i64 ((↑k : Int))), (.bool false), u, u, (.slice (some ⟨ob, 0, none⟩) k c), (.slice (some ⟨ob, 0, none⟩) k c), (.int .i64 ((↑k : Int))), (.int .i64 ((↑k1 : Int))), (.pointer (some ⟨ob, (0 + k1), none⟩)), (.float .f64 z), (.float .f64 z), (.bool true), (.bool true), (.float .f64 z), (.bool false), (.bool false), u, u, u, u, u, u], [some (ob, (.cells { toList := cs } 27))]⟩) (fun ν1 => []) (fun ν1 => [⟨15, [(.float .f64 z)], [], [], (fun _ => (.bool false, [], []))⟩]) (fun ν1 => []) (fun ν1 => by kernel_rfl) (fun ν1 => by kernel_rfl) (fun ν1 => trivial) (fun ν1 => ⟨(fun s' F w g => c_histInf_false w0 z hinf s' _ w g), trivial⟩) (fun ν1 => trivial) ?_
  intro ν1 s1
  refine Goes.last [15] 100000 [.brc false] (v := (.slice (some ⟨ob, 0, none⟩) k c)) (s' := s1) (L' := [(ob, (.cells { toList := cs } 27))]) (ob := []) (by kernel_rfl) (by kernel_rfl) trivial ?_
  intro w' g'
  exact ⟨⟨s, 0, 0, undef, [], fun _ => 0⟩, _, rfl, rfl, g'⟩

set_option maxRecDepth 100000 in
theorem c_bounds_c (w0 : World) (ob k k1 c z : Nat) (cs : List Value) (hk : k = k1 + 1) (hk63 : k ≤ 4611686018427387904) (hkc : k ≤ c) (hget : (⟨cs⟩ : Array Value)[0 + k1]? = some (.float .f64 z)) (h18 : (FloatKind.f64.format.order z 0 == some Ordering.gt) = true) (hinf : (FloatKind.f64.format.order z 9218868437227405311 == some Ordering.gt) = true) (s : Nat) (F : List (Nat × Obj)) (w : World) (g : Good w0 s ([(ob, .cells ⟨cs⟩ 27)] ++ F) w) :
    Calls Tryz.prog 6 #[.slice (some ⟨ob, 0, none⟩) k c, .bool true] w fun e w' => ∃ v' : PU, ∃ s', v'.n = s ∧ e = .returned (.slice (some ⟨ob, 0, none⟩) k1 c) ∧ Good w0 s' ([(ob, .cells ⟨cs⟩ 27)] ++ F) w' := by
  have hk0 : Value.bool ((k : Int) == 0) = .bool false := by
    have : ((k : Int) == 0) = false := by simp; omega
    rw [this]
  have hk1 : Value.int .i64 (IntKind.i64.wrap ((k : Int) - 1)) = .int .i64 (k1 : Int) := by
    have : IntKind.i64.wrap ((k : Int) - 1) = (k1 : Int) := by rw [IntKind.wrap_i64]; omega
    rw [this]
  have hk1k : k1 < k := by omega
  have hgt : Value.bool (FloatKind.f64.format.order z 0 == some Ordering.gt) = .bool true := by rw [h18]
  refine Goes.calls (L := [(ob, .cells ⟨cs⟩ 27)]) (F := F) g fun cs0 => ?_
  refine Goes.seg [15] 20 [.fix 8 (.bool false), .brc false, .fix 14 (.int .i64 ((↑k1 : Int)))] (fr' := ⟨6, #[(.slice (some ⟨ob, 0, none⟩) k c), (.bool true), u, u, (.slice none 0 0), u, (.slice (some ⟨ob, 0, none⟩) k c), (.int .i64 ((↑k : Int))), (.bool false), u, u, (.slice (some ⟨ob, 0, none⟩) k c), (.slice (some ⟨ob, 0, none⟩) k c), (.int .i64 ((↑k : Int))), (.int .i64 ((↑k1 : Int))), u, u, u, u, u, u, u, u, u, u, u, u, u, u], [.inRegion (opsAt Tryz.prog 6 [1, 1, 0, 0]) [4, 5, 6], .code (codeAt Tryz.prog 6 [1, 1, 0, 1]), .code (codeAt Tryz.prog 6 [1, 1, 1])], [], .run, .normal, none⟩) (cs' := []) (s' := s) (L' := [(ob, (.cells { toList := cs } 27))]) (ob := [(.val (.int .i64 (IntKind.i64.wrap ((↑k : Int) - 1))) (.int .i64 ((↑k1 : Int)))), (.val (.bool ((↑k : Int) == 0)) (.bool false))]) (by kernel_rfl) (by kernel_rfl) (by repeat first | exact trivial | (refine And.intro (by first | assumption | rfl) ?_)) ?_
  refine Goes.inOrder [.rdo [] [], .rdo [] [], .rdo [] [], .rdo [] [], .hand [] [] [] (fun _ => (.pointer (some ⟨ob, k1 * 1, none⟩), [], [])), .rdo [0] [.ldv 0 (.float .f64 z)], .rdo [] []] 0 rfl rfl rfl rfl (fun ν0 => ⟨[(.slice (some ⟨ob, 0, none⟩) k c), (.bool true), u, u, (.slice none 0 0), (.float .f64 z), (.slice (some ⟨ob, 0, none⟩) k c), (.int .i64 ((↑k : Int))), (.bool false), u, u, (.slice (some ⟨ob, 0, none⟩) k c), (.slice (some ⟨ob, 0, none⟩) k c), (.int .i64 ((↑k : Int))), (.int .i64 ((↑k1 : Int))), (.pointer (some ⟨ob, (0 + k1), none⟩)), (.float .f64 z), u, u, u, u, u, u, u, u, u, u, u, u], [some (ob, (.cells { toList := cs } 27))]⟩) (fun ν0 => [(.get ({ toList := cs }) ((0 + k1)) (.float .f64 z))]) (fun ν0 => []) (fun ν0 => [⟨(indexSem 22 (.slice (some ⟨ob, 0, none⟩) k c) (.int .i64 k1)), [], [], (fun _ => (.pointer (some ⟨ob, k1 * 1, none⟩), [], []))⟩]) (fun ν0 => by kernel_rfl) (fun ν0 => by kernel_rfl) (fun ν0 => ⟨hget, trivial⟩) (fun ν0 => trivial) (fun ν0 => ⟨(ho_index 22 27 1 (by kernel_rfl) (by kernel_rfl) ob k c k1 hk1k), trivial⟩) ?_
  intro ν0 s0
  refine Goes.seg [15] 100000 [.fix 18 (.bool true)] (fr' := ⟨6, #[(.slice (some ⟨ob, 0, none⟩) k c), (.bool true), u, u, (.slice none 0 0), (.float .f64 z), (.slice (some ⟨ob, 0, none⟩) k c), (.int .i64 ((↑k : Int))), (.bool false), u, u, (.slice (some ⟨ob, 0, none⟩) k c), (.slice (some ⟨ob, 0, none⟩) k c), (.int .i64 ((↑k : Int))), (.int .i64 ((↑k1 : Int))), (.pointer (some ⟨ob, (0 + k1), none⟩)), (.float .f64 z), (.float .f64 z), (.bool true), (.bool true), (.float .f64 z), u, u, u, u, u, u, u, u], [.inRegion (opsAt Tryz.prog 6 [1, 1, 0, 1, 0]) [4, 5], .code (codeAt Tryz.prog 6 [1, 1, 0, 1, 1]), .code (codeAt Tryz.prog 6 [1, 1, 1])], [], .run, .normal, none⟩) (cs' := []) (s' := s0) (L' := [(ob, (.cells { toList := cs } 27))]) (ob := [(.val (.bool (FloatKind.f64.format.order z 0 == some Ordering.gt)) (.bool true))]) (by kernel_rfl) (by kernel_rfl) (by repeat first | exact trivial | (refine And.intro (by first | assumption | rfl) ?_)) ?_
  refine Goes.inOrder [.rdo [] [], .rdo [] [], .rdo [] [], .rdo [] [], .call [] [] [] 15 (fun _ => (.bool true, [], [])), .rdo [] []] 0 rfl rfl rfl rfl (fun ν1 => ⟨[(.slice (some ⟨ob, 0, none⟩) k c), (.bool true), u, u, (.slice none 0 0), (.float .f64 z), (.slice (some ⟨ob, 0, none⟩) k c), (.int .i64 ((↑k : Int))), (.bool false), u, u, (.slice (some ⟨ob, 0, none⟩) k c), (.slice (some ⟨ob, 0, none⟩) k c), (.int .i64 ((↑k : Int))), (.int .i64 ((↑k1 : Int))), (.pointer (some ⟨ob, (0 + k1), none⟩)), (.float .f64 z), (.float .f64 z), (.bool true), (.bool true), (.float .f64 z), (.bool true), (.bool true), u, u, u, u, u, u], [some (ob, (.cells { toList := cs } 27))]⟩) (fun ν1 => []) (fun ν1 => [⟨15, [(.float .f64 z)], [], [], (fun _ => (.bool true, [], []))⟩]) (fun ν1 => []) (fun ν1 => by kernel_rfl) (fun ν1 => by kernel_rfl) (fun ν1 => trivial) (fun ν1 => ⟨(fun s' F w g => c_histInf_true w0 z hinf s' _ w g), trivial⟩) (fun ν1 => trivial) ?_
  intro ν1 s1
  refine Goes.seg [15] 7 [.brc true, .fix 26 (.int .i64 ((↑k1 : Int)))] (fr' := ⟨6, #[(.slice (some ⟨ob, 0, none⟩) k c), (.bool true), u, u, (.slice none 0 0), (.float .f64 z), (.slice (some ⟨ob, 0, none⟩) k c), (.int .i64 ((↑k : Int))), (.bool false), u, u, (.slice (some ⟨ob, 0, none⟩) k c), (.slice (some ⟨ob, 0, none⟩) k c), (.int .i64 ((↑k : Int))), (.int .i64 ((↑k1 : Int))), (.pointer (some ⟨ob, (0 + k1), none⟩)), (.float .f64 z), (.float .f64 z), (.bool true), (.bool true), (.float .f64 z), (.bool true), (.bool true), (.slice (some ⟨ob, 0, none⟩) k c), (.slice (some ⟨ob, 0, none⟩) k c), (.int .i64 ((↑k : Int))), (.int .i64 ((↑k1 : Int))), u, u], [.inRegion (opsAt Tryz.prog 6 [1, 1, 0, 1, 1, 0, 0]) [4, 5], .code (codeAt Tryz.prog 6 [1, 0, 1, 0, 0, 1, 0, 1]), .code (codeAt Tryz.prog 6 [1, 1, 1])], [], .run, .normal, none⟩) (cs' := []) (s' := s1) (L' := [(ob, (.cells { toList := cs } 27))]) (ob := [(.val (.int .i64 (IntKind.i64.wrap ((↑k : Int) - 1))) (.int .i64 ((↑k1 : Int))))]) (by kernel_rfl) (by kernel_rfl) (by repeat first | exact trivial | (refine And.intro (by first | assumption | rfl) ?_)) ?_
  refine Goes.inOrder [.rdo [] [], .rdo [] [], .rdo [] [], .rdo [] [], .hand [] [] [] (fun _ => (.slice (some ⟨ob, 0, none⟩) k1 c, [], [])), .rdo [] []] 0 rfl rfl rfl rfl (fun ν2 => ⟨[(.slice (some ⟨ob, 0, none⟩) k c), (.bool true), u, u, (.slice (some ⟨ob, 0, none⟩) k1 c), (.float .f64 z), (.slice (some ⟨ob, 0, none⟩) k c), (.int .i64 ((↑k : Int))), (.bool false), u, u, (.slice (some ⟨ob, 0, none⟩) k c), (.slice (some ⟨ob, 0, none⟩) k c), (.int .i64 ((↑k : Int))), (.int .i64 ((↑k1 : Int))), (.pointer (some ⟨ob, (0 + k1), none⟩)), (.float .f64 z), (.float .f64 z), (.bool true), (.bool true), (.float .f64 z), (.bool true), (.bool true), (.slice (some ⟨ob, 0, none⟩) k c), (.slice (some ⟨ob, 0, none⟩) k c), (.int .i64 ((↑k : Int))), (.int .i64 ((↑k1 : Int))), (.slice (some ⟨ob, 0, none⟩) k1 c), u], [some (ob, (.cells { toList := cs } 27))]⟩) (fun ν2 => []) (fun ν2 => []) (fun ν2 => [⟨(cutSem 22 (.slice (some ⟨ob, 0, none⟩) k c) (.int .i64 k1)), [], [], (fun _ => (.slice (some ⟨ob, 0, none⟩) k1 c, [], []))⟩]) (fun ν2 => by kernel_rfl) (fun ν2 => by kernel_rfl) (fun ν2 => trivial) (fun ν2 => trivial) (fun ν2 => ⟨(ho_cut 22 27 1 (by kernel_rfl) (by kernel_rfl) ob k c k1 (by omega) hkc), trivial⟩) ?_
  intro ν2 s2
  refine Goes.last [15] 100000 [] (v := (.slice (some ⟨ob, 0, none⟩) k1 c)) (s' := s2) (L' := [(ob, (.cells { toList := cs } 27))]) (ob := []) (by kernel_rfl) (by kernel_rfl) trivial ?_
  intro w' g'
  exact ⟨⟨s, 0, 0, undef, [], fun _ => 0⟩, _, rfl, rfl, g'⟩

theorem rank_zero : rank 0 = some 0 := by decide
theorem rank_min : ∃ r : Int, rank 18442240474082181119 = some r ∧ r ≤ 0 := ⟨_, rfl, by decide⟩

theorem infb_pos {v : Nat} (h : infb v = true) : (FloatKind.f64.format.order v 0 == some Ordering.gt) = true := by
  rw [infb_flt] at h
  have hr := flt_max h
  refine (fgt_eq v 0).trans (flt_iff.2 ⟨_, _, rank_zero, hr, top_pos⟩)

theorem pos_not_low {v : Nat} (h : (FloatKind.f64.format.order v 0 == some Ordering.gt) = true) : (FloatKind.f64.format.order v 18442240474082181119 == some Ordering.lt) = false := by
  have h2 : flt 0 v = true := (fgt_eq v 0).symm.trans h
  obtain ⟨a, b, ha, hb, hab⟩ := flt_iff.1 h2
  rw [rank_zero] at ha
  cases ha
  obtain ⟨r, hr, hr0⟩ := rank_min
  show flt v 18442240474082181119 = false
  cases e : flt v 18442240474082181119 with
  | false => rfl
  | true =>
    obtain ⟨p, q, hp, hq, hpq⟩ := flt_iff.1 e
    rw [hb] at hp
    rw [hr] at hq
    cases hp
    cases hq
    omega

/-- HistBounds: a last bound of plus infinity is cut. -/
theorem c_bounds (w0 : World) (ob k c : Nat) (y : Nat → Nat) (rest : List Value) (h1 : 1 ≤ k) (hk63 : k ≤ 1099511627776) (hkc : k ≤ c) (s : Nat) (F : List (Nat × Obj)) (w : World) (g : Good w0 s ([(ob, .cells ⟨fl y k ++ rest⟩ 27)] ++ F) w) :
    Calls Tryz.prog 6 #[.slice (some ⟨ob, 0, none⟩) k c, .bool true] w fun e w' => ∃ v' : PU, ∃ s', v'.n = s ∧ e = .returned (.slice (some ⟨ob, 0, none⟩) (keptN y k) c) ∧ Good w0 s' ([(ob, .cells ⟨fl y k ++ rest⟩ 27)] ++ F) w' := by
  have hget : (⟨fl y k ++ rest⟩ : Array Value)[0 + (k - 1)]? = some (.float .f64 (y (k - 1))) := by
    rw [← Array.getElem?_toList]
    show (fl y k ++ rest)[0 + (k - 1)]? = _
    have hlt : k - 1 < k := by omega
    rw [Nat.zero_add, List.getElem?_append_left (by simpa [fl] using hlt)]
    simp [fl, hlt]
  cases hi : infb (y (k - 1)) with
  | true =>
    have hk : keptN y k = k - 1 := by unfold keptN; rw [hi]; rfl
    rw [hk]
    exact c_bounds_c w0 ob k (k - 1) c _ _ (by omega) (by omega) hkc hget (infb_pos hi) hi s F w g
  | false =>
    have hk : keptN y k = k := kept_fin hi
    rw [hk]
    cases h18 : (FloatKind.f64.format.order (y (k - 1)) 0 == some Ordering.gt) with
    | false => exact c_bounds_n w0 ob k (k - 1) c _ _ (by omega) (by omega) hkc hget h18 s F w g
    | true => exact c_bounds_m w0 ob k (k - 1) c _ _ (by omega) (by omega) hkc hget h18 ⟨hi, pos_not_low h18⟩ s F w g

end Go.Sx
