/- The contract of HistWhole: whole numbers as floating-point ones. For up to 2^20 numbers, each cut by 2^30. -/
import Derived.Test.YthknahhbbhbgoaaGreatDoorVHwVal
namespace Go.Sx
open Go Go.Proofs Go.Fl
open Go.Lib (strCells)

noncomputable def hwFr (la : Option Addr) (M sc : Nat) (acc : Value) (i : Nat) (r : Nat → Value) : Frame := ⟨13, #[.slice la M sc, r 1, r 2, acc, .int .i64 i, r 5, r 6, r 7, r 8, r 9, r 10, r 11, r 12, r 13, r 14, r 15, r 16, r 17, r 18, r 19, r 20, r 21, r 22, r 23, r 24], [.code (codeAt Tryz.prog 13 [1, 1, 0, 1, 0, 0]), .inLoop (codeAt Tryz.prog 13 [1, 1, 0, 1, 0, 0]), .inBlock 0, .code (codeAt Tryz.prog 13 [1, 1, 1])], [], .run, .normal, none⟩

set_option maxRecDepth 100000 in
theorem hw_n (w0 : World) (a : Addr) (M sc v : Nat) (y t : Int) (i : Nat) (r : Nat → Value) (s : Nat) (hi : i < M) (hib : i < 1048576) (hold : w0.cell? (a.add (i * 1)) = some (.int .i64 y)) (ht : y.tmod 1073741824 = t) (hv : enc t = v)
    (F : List (Nat × Obj)) (cs0 : List Frame) (Φ : Machine → Prop) (ih : ∀ ob' sp' r' s', Goes Tryz.prog w0 F cs0 Φ (hwFr (some a) M sc (.slice (some ⟨ob', 0, none⟩) 1 (1 + sp')) (i + 1) r') [] s' [(ob', .cells ⟨[.float .f64 v] ++ zc (.float .f64 0) sp'⟩ 27)]) :
    Goes Tryz.prog w0 F cs0 Φ (hwFr (some a) M sc (.slice none 0 0) i r) [] s [] := by
  have h8 : Value.bool (decide ((i : Int) < (M : Int))) = .bool true := by rw [decide_eq_true (by omega)]
  have h11 : Value.bool (decide ((i : Int) < 1048576)) = .bool true := by rw [decide_eq_true (by omega)]
  have hrem : Value.int .i64 (y.tmod 1073741824) = .int .i64 t := by rw [ht]
  have hconv : Value.float .f64 (FloatKind.f64.nearest t) = .float .f64 v := congrArg (Value.float .f64) hv
  have hM : i < 4611686018427387904 := by omega
  show Goes Tryz.prog w0 F cs0 Φ ⟨13, #[.slice (some a) M sc, r 1, r 2, .slice none 0 0, .int .i64 i, r 5, r 6, r 7, r 8, r 9, r 10, r 11, r 12, r 13, r 14, r 15, r 16, r 17, r 18, r 19, r 20, r 21, r 22, r 23, r 24], [.code (codeAt Tryz.prog 13 [1, 1, 0, 1, 0, 0]), .inLoop (codeAt Tryz.prog 13 [1, 1, 0, 1, 0, 0]), .inBlock 0, .code (codeAt Tryz.prog 13 [1, 1, 1])], [], .run, .normal, none⟩ [] s []
  refine Goes.seg [] 20 [.fix 8 (.bool (true)), .fix 11 (.bool (true)), .brc true] (fr' := ⟨13, #[(.slice (some a) (M) (sc)), (r 1), (r 2), (.slice none (0) (0)), (.int .i64 ((↑i : Int))), (.int .i64 ((↑i : Int))), (.slice (some a) (M) (sc)), (.int .i64 ((↑M : Int))), (.bool (true)), (.bool (true)), (.int .i64 ((↑i : Int))), (.bool (true)), (.bool (true)), (r 13), (r 14), (.slice none (0) (0)), (.slice (some a) (M) (sc)), (.int .i64 ((↑i : Int))), (r 18), (r 19), (r 20), (r 21), (r 22), (r 23), (r 24)], [.inRegion (opsAt Tryz.prog 13 [1, 1, 0, 1, 0, 0, 1, 0, 0]) [3, 4, 5, 6, 7, 8, 9], .inBlock 1, .code (codeAt Tryz.prog 13 [1, 1, 0, 1, 0, 0, 1, 1]), .inLoop (codeAt Tryz.prog 13 [1, 1, 0, 1, 0, 0]), .inBlock 0, .code (codeAt Tryz.prog 13 [1, 1, 1])], [], .run, .normal, none⟩) (cs' := []) (s' := s) (L' := []) (ob := [(.val (.bool (decide ((↑i : Int) < 1048576))) (.bool (true))), (.val (.bool (decide ((↑i : Int) < (↑M : Int)))) (.bool (true)))]) (by kernel_rfl) (by kernel_rfl) ⟨h11, h8, trivial⟩ ?_
  refine Goes.inOrder [.rdo [] [], .rdo [] [], .rdo [] [], .hand [] [] [] (fun _ => (.pointer (some (a.add (i * 1))), [], [])), .rdo [] [.old (.int .i64 y)], .rdo [] [.fix 20 (.int .i64 t)], .rdo [] [.fix 21 (.float .f64 v)], .mem [] [0] [], .hand [0] [] [1] (fun u => (.slice (some ⟨u.n, 0, none⟩) 1 (1 + u.y), [], [(u.n, .cells ⟨[.float .f64 v] ++ zc (.float .f64 0) u.y⟩ 27)])), .rdo [] []] 2 rfl rfl rfl rfl (fun ν0 => ⟨[(.slice (some a) (M) (sc)), (r 1), (r 2), (.slice (some ⟨(ν0 8).n, 0, none⟩) (1) ((1 + ((ν0 8).y)))), (.int .i64 ((↑i : Int))), (.int .i64 ((↑i : Int))), (.slice (some a) (M) (sc)), (.int .i64 ((↑M : Int))), (.bool (true)), (.bool (true)), (.int .i64 ((↑i : Int))), (.bool (true)), (.bool (true)), (r 13), (r 14), (.slice none (0) (0)), (.slice (some a) (M) (sc)), (.int .i64 ((↑i : Int))), (.pointer (some (a.add (i * 1)))), (.int .i64 (y)), (.int .i64 (t)), (.float .f64 (v)), (.slice (some ⟨(ν0 7).n, 0, none⟩) (1) (1)), (.slice (some ⟨(ν0 8).n, 0, none⟩) (1) ((1 + ((ν0 8).y)))), (r 24)], [some ((ν0 7).n, (.cells #[(.float .f64 (v))] 27)), some ((ν0 8).n, (.cells { toList := [Value.float FloatKind.f64 v] ++ zc (Value.float FloatKind.f64 0) (ν0 8).y } 27))]⟩) (fun ν0 => [(.cell (a.add (i * 1)) (.int .i64 (y))), (.val (.int .i64 (y.tmod 1073741824)) (.int .i64 (t))), (.val (.float .f64 (FloatKind.f64.nearest t)) (.float .f64 (v)))]) (fun ν0 => []) (fun ν0 => [⟨(indexSem 42 (.slice (some a) M sc) (.int .i64 i)), [], [], (fun _ => (.pointer (some (a.add (i * 1))), [], []))⟩, ⟨(appendSem 22 22 (.slice none 0 0) (.slice (some ⟨(ν0 7).n, 0, none⟩) 1 1)), [((ν0 7).n, (.cells #[(.float .f64 (v))] 27))], [], (fun u => (.slice (some ⟨u.n, 0, none⟩) 1 (1 + u.y), [], [(u.n, .cells ⟨[.float .f64 v] ++ zc (.float .f64 0) u.y⟩ 27)]))⟩]) (fun ν0 => by kernel_rfl) (fun ν0 => by kernel_rfl) (fun ν0 => ⟨hold, hrem, hconv, trivial⟩) (fun ν0 => trivial) (fun ν0 => ⟨(ho_index_old 42 3 1 (by kernel_rfl) (by kernel_rfl) a M sc i hi), (ho_nil (.float .f64 0) 1 8 (by kernel_rfl) (by kernel_rfl) rfl (by decide) _ 0 1 1 _ _ _ [.float .f64 v] rfl rfl (by decide) (by decide) (by decide)), trivial⟩) ?_
  intro ν0 s0
  refine Goes.seg [] 100000 [] (fr' := ⟨13, #[(.slice (some a) (M) (sc)), (r 1), (r 2), (.slice (some ⟨(ν0 8).n, 0, none⟩) (1) ((1 + ((ν0 8).y)))), (.int .i64 (IntKind.i64.wrap ((↑i : Int) + 1))), (.int .i64 ((↑i : Int))), (.slice (some a) (M) (sc)), (.int .i64 ((↑M : Int))), (.bool (true)), (.bool (true)), (.int .i64 ((↑i : Int))), (.bool (true)), (.bool (true)), (.int .i64 ((↑i : Int))), (.int .i64 (IntKind.i64.wrap ((↑i : Int) + 1))), (.slice none (0) (0)), (.slice (some a) (M) (sc)), (.int .i64 ((↑i : Int))), (.pointer (some (a.add (i * 1)))), (.int .i64 (y)), (.int .i64 (t)), (.float .f64 (v)), (.slice (some ⟨(ν0 7).n, 0, none⟩) (1) (1)), (.slice (some ⟨(ν0 8).n, 0, none⟩) (1) ((1 + ((ν0 8).y)))), (r 24)], [.inLoop (codeAt Tryz.prog 13 [1, 1, 0, 1, 0, 0]), .inBlock 0, .code (codeAt Tryz.prog 13 [1, 1, 1])], [], .run, .normal, none⟩) (cs' := []) (s' := s0) (L' := [((ν0 7).n, (.cells #[(.float .f64 (v))] 27)), ((ν0 8).n, (.cells { toList := [Value.float FloatKind.f64 v] ++ zc (Value.float FloatKind.f64 0) (ν0 8).y } 27))]) (ob := []) (by kernel_rfl) (by kernel_rfl) trivial ?_
  rw [wrap_succ (n := i + 1) (by omega) (by omega)]
  refine Goes.pick [1] rfl rfl ?_
  exact Goes.again _ _ rfl rfl rfl (ih (ν0 8).n (ν0 8).y (fun z => match z with | 5 => .int .i64 ((↑i : Int)) | 6 => .slice (some a) (M) (sc) | 7 => .int .i64 ((↑M : Int)) | 8 => .bool (true) | 9 => .bool (true) | 10 => .int .i64 ((↑i : Int)) | 11 => .bool (true) | 12 => .bool (true) | 13 => .int .i64 ((↑i : Int)) | 14 => .int .i64 (((i + 1 : Nat) : Int)) | 15 => .slice none (0) (0) | 16 => .slice (some a) (M) (sc) | 17 => .int .i64 ((↑i : Int)) | 18 => .pointer (some (a.add (i * 1))) | 19 => .int .i64 (y) | 20 => .int .i64 (t) | 21 => .float .f64 (v) | 22 => .slice (some ⟨(ν0 7).n, 0, none⟩) (1) (1) | 23 => .slice (some ⟨(ν0 8).n, 0, none⟩) (1) ((1 + ((ν0 8).y))) | z => r z) _)

set_option maxRecDepth 100000 in
theorem hw_o (w0 : World) (a : Addr) (M sc v : Nat) (y t : Int) (i : Nat) (r : Nat → Value) (s : Nat) (hi : i < M) (hib : i < 1048576) (ob sp : Nat) (xs : List Value) (hxs : xs.length = i * 1) (hold : w0.cell? (a.add (i * 1)) = some (.int .i64 y)) (ht : y.tmod 1073741824 = t) (hv : enc t = v)
    (F : List (Nat × Obj)) (cs0 : List Frame) (Φ : Machine → Prop) (ih : ∀ ob' sp' r' s', Goes Tryz.prog w0 F cs0 Φ (hwFr (some a) M sc (.slice (some ⟨ob', 0, none⟩) (i + 1) ((i + 1) + sp')) (i + 1) r') [] s' [(ob', .cells ⟨xs ++ [.float .f64 v] ++ zc (.float .f64 0) sp'⟩ 27)]) :
    Goes Tryz.prog w0 F cs0 Φ (hwFr (some a) M sc (.slice (some ⟨ob, 0, none⟩) i (i + sp)) i r) [] s [(ob, .cells ⟨xs ++ zc (.float .f64 0) sp⟩ 27)] := by
  have h8 : Value.bool (decide ((i : Int) < (M : Int))) = .bool true := by rw [decide_eq_true (by omega)]
  have h11 : Value.bool (decide ((i : Int) < 1048576)) = .bool true := by rw [decide_eq_true (by omega)]
  have hrem : Value.int .i64 (y.tmod 1073741824) = .int .i64 t := by rw [ht]
  have hconv : Value.float .f64 (FloatKind.f64.nearest t) = .float .f64 v := congrArg (Value.float .f64) hv
  have hM : i < 4611686018427387904 := by omega
  show Goes Tryz.prog w0 F cs0 Φ ⟨13, #[.slice (some a) M sc, r 1, r 2, .slice (some ⟨ob, 0, none⟩) i (i + sp), .int .i64 i, r 5, r 6, r 7, r 8, r 9, r 10, r 11, r 12, r 13, r 14, r 15, r 16, r 17, r 18, r 19, r 20, r 21, r 22, r 23, r 24], [.code (codeAt Tryz.prog 13 [1, 1, 0, 1, 0, 0]), .inLoop (codeAt Tryz.prog 13 [1, 1, 0, 1, 0, 0]), .inBlock 0, .code (codeAt Tryz.prog 13 [1, 1, 1])], [], .run, .normal, none⟩ [] s [(ob, .cells ⟨xs ++ zc (.float .f64 0) sp⟩ 27)]
  refine Goes.seg [] 20 [.fix 8 (.bool (true)), .fix 11 (.bool (true)), .brc true] (fr' := ⟨13, #[(.slice (some a) (M) (sc)), (r 1), (r 2), (.slice (some ⟨ob, 0, none⟩) (i) ((i + sp))), (.int .i64 ((↑i : Int))), (.int .i64 ((↑i : Int))), (.slice (some a) (M) (sc)), (.int .i64 ((↑M : Int))), (.bool (true)), (.bool (true)), (.int .i64 ((↑i : Int))), (.bool (true)), (.bool (true)), (r 13), (r 14), (.slice (some ⟨ob, 0, none⟩) (i) ((i + sp))), (.slice (some a) (M) (sc)), (.int .i64 ((↑i : Int))), (r 18), (r 19), (r 20), (r 21), (r 22), (r 23), (r 24)], [.inRegion (opsAt Tryz.prog 13 [1, 1, 0, 1, 0, 0, 1, 0, 0]) [3, 4, 5, 6, 7, 8, 9], .inBlock 1, .code (codeAt Tryz.prog 13 [1, 1, 0, 1, 0, 0, 1, 1]), .inLoop (codeAt Tryz.prog 13 [1, 1, 0, 1, 0, 0]), .inBlock 0, .code (codeAt Tryz.prog 13 [1, 1, 1])], [], .run, .normal, none⟩) (cs' := []) (s' := s) (L' := [(ob, (.cells { toList := xs ++ zc (Value.float FloatKind.f64 0) sp } 27))]) (ob := [(.val (.bool (decide ((↑i : Int) < 1048576))) (.bool (true))), (.val (.bool (decide ((↑i : Int) < (↑M : Int)))) (.bool (true)))]) (by kernel_rfl) (by kernel_rfl) ⟨h11, h8, trivial⟩ ?_
  refine Goes.inOrder [.rdo [] [], .rdo [] [], .rdo [] [], .hand [] [] [] (fun _ => (.pointer (some (a.add (i * 1))), [], [])), .rdo [] [.old (.int .i64 y)], .rdo [] [.fix 20 (.int .i64 t)], .rdo [] [.fix 21 (.float .f64 v)], .mem [] [1] [], .hand [1] [0] [] (fun u => (.slice (some ⟨u.x, 0, none⟩) (i + 1) (i + 1 + u.y), [(u.x, .cells ⟨xs ++ [.float .f64 v] ++ zc (.float .f64 0) u.y⟩ 27)], [])), .rdo [] []] 1 rfl rfl rfl rfl (fun ν0 => ⟨[(.slice (some a) (M) (sc)), (r 1), (r 2), (.slice (some ⟨(ν0 8).x, 0, none⟩) (i + 1) ((i + 1 + ((ν0 8).y)))), (.int .i64 ((↑i : Int))), (.int .i64 ((↑i : Int))), (.slice (some a) (M) (sc)), (.int .i64 ((↑M : Int))), (.bool (true)), (.bool (true)), (.int .i64 ((↑i : Int))), (.bool (true)), (.bool (true)), (r 13), (r 14), (.slice (some ⟨ob, 0, none⟩) (i) ((i + sp))), (.slice (some a) (M) (sc)), (.int .i64 ((↑i : Int))), (.pointer (some (a.add (i * 1)))), (.int .i64 (y)), (.int .i64 (t)), (.float .f64 (v)), (.slice (some ⟨(ν0 7).n, 0, none⟩) (1) (1)), (.slice (some ⟨(ν0 8).x, 0, none⟩) (i + 1) ((i + 1 + ((ν0 8).y)))), (r 24)], [some ((ν0 8).x, (.cells { toList := xs ++ [Value.float FloatKind.f64 v] ++ zc (Value.float FloatKind.f64 0) (ν0 8).y } 27)), some ((ν0 7).n, (.cells #[(.float .f64 (v))] 27))]⟩) (fun ν0 => [(.cell (a.add (i * 1)) (.int .i64 (y))), (.val (.int .i64 (y.tmod 1073741824)) (.int .i64 (t))), (.val (.float .f64 (FloatKind.f64.nearest t)) (.float .f64 (v)))]) (fun ν0 => []) (fun ν0 => [⟨(indexSem 42 (.slice (some a) M sc) (.int .i64 i)), [], [], (fun _ => (.pointer (some (a.add (i * 1))), [], []))⟩, ⟨(appendSem 22 22 (.slice (some ⟨ob, 0, none⟩) i (i + sp)) (.slice (some ⟨(ν0 7).n, 0, none⟩) 1 1)), [((ν0 7).n, (.cells #[(.float .f64 (v))] 27))], [(ob, (.cells { toList := xs ++ zc (Value.float FloatKind.f64 0) sp } 27))], (fun u => (.slice (some ⟨u.x, 0, none⟩) (i + 1) (i + 1 + u.y), [(u.x, .cells ⟨xs ++ [.float .f64 v] ++ zc (.float .f64 0) u.y⟩ 27)], []))⟩]) (fun ν0 => by kernel_rfl) (fun ν0 => by kernel_rfl) (fun ν0 => ⟨hold, hrem, hconv, trivial⟩) (fun ν0 => trivial) (fun ν0 => ⟨(ho_index_old 42 3 1 (by kernel_rfl) (by kernel_rfl) a M sc i hi), (ho_own (.float .f64 0) 1 8 (by kernel_rfl) (by kernel_rfl) rfl (by decide) ob i sp xs hxs _ 0 1 1 _ _ _ [.float .f64 v] rfl rfl (by simp [Value.oneCell']) (by omega) (by omega)), trivial⟩) ?_
  intro ν0 s0
  refine Goes.seg [] 100000 [] (fr' := ⟨13, #[(.slice (some a) (M) (sc)), (r 1), (r 2), (.slice (some ⟨(ν0 8).x, 0, none⟩) (i + 1) ((i + 1 + ((ν0 8).y)))), (.int .i64 (IntKind.i64.wrap ((↑i : Int) + 1))), (.int .i64 ((↑i : Int))), (.slice (some a) (M) (sc)), (.int .i64 ((↑M : Int))), (.bool (true)), (.bool (true)), (.int .i64 ((↑i : Int))), (.bool (true)), (.bool (true)), (.int .i64 ((↑i : Int))), (.int .i64 (IntKind.i64.wrap ((↑i : Int) + 1))), (.slice (some ⟨ob, 0, none⟩) (i) ((i + sp))), (.slice (some a) (M) (sc)), (.int .i64 ((↑i : Int))), (.pointer (some (a.add (i * 1)))), (.int .i64 (y)), (.int .i64 (t)), (.float .f64 (v)), (.slice (some ⟨(ν0 7).n, 0, none⟩) (1) (1)), (.slice (some ⟨(ν0 8).x, 0, none⟩) (i + 1) ((i + 1 + ((ν0 8).y)))), (r 24)], [.inLoop (codeAt Tryz.prog 13 [1, 1, 0, 1, 0, 0]), .inBlock 0, .code (codeAt Tryz.prog 13 [1, 1, 1])], [], .run, .normal, none⟩) (cs' := []) (s' := s0) (L' := [((ν0 8).x, (.cells { toList := xs ++ [Value.float FloatKind.f64 v] ++ zc (Value.float FloatKind.f64 0) (ν0 8).y } 27)), ((ν0 7).n, (.cells #[(.float .f64 (v))] 27))]) (ob := []) (by kernel_rfl) (by kernel_rfl) trivial ?_
  rw [wrap_succ (n := i + 1) (by omega) (by omega)]
  refine Goes.pick [0] rfl rfl ?_
  exact Goes.again _ _ rfl rfl rfl (ih (ν0 8).x (ν0 8).y (fun z => match z with | 5 => .int .i64 ((↑i : Int)) | 6 => .slice (some a) (M) (sc) | 7 => .int .i64 ((↑M : Int)) | 8 => .bool (true) | 9 => .bool (true) | 10 => .int .i64 ((↑i : Int)) | 11 => .bool (true) | 12 => .bool (true) | 13 => .int .i64 ((↑i : Int)) | 14 => .int .i64 (((i + 1 : Nat) : Int)) | 15 => .slice (some ⟨ob, 0, none⟩) (i) ((i + sp)) | 16 => .slice (some a) (M) (sc) | 17 => .int .i64 ((↑i : Int)) | 18 => .pointer (some (a.add (i * 1))) | 19 => .int .i64 (y) | 20 => .int .i64 (t) | 21 => .float .f64 (v) | 22 => .slice (some ⟨(ν0 7).n, 0, none⟩) (1) (1) | 23 => .slice (some ⟨(ν0 8).x, 0, none⟩) (i + 1) ((i + 1 + ((ν0 8).y))) | z => r z) _)

set_option maxRecDepth 100000 in
theorem hw_e (w0 : World) (la : Option Addr) (M sc : Nat) (i : Nat) (r : Nat → Value) (s : Nat) (hi : ¬ i < M) (ob sp : Nat) (xs : List Value) (F : List (Nat × Obj)) (cs0 : List Frame) (R : Ending → World → Prop)
    (hR : ∀ w', Good w0 s ([(ob, .cells ⟨xs ++ zc (.float .f64 0) sp⟩ 27)] ++ F) w' → R (.returned (.slice (some ⟨ob, 0, none⟩) i (i + sp))) w') :
    Goes Tryz.prog w0 F cs0 (Ends Tryz.prog 13 R cs0) (hwFr la M sc (.slice (some ⟨ob, 0, none⟩) i (i + sp)) i r) [] s [(ob, .cells ⟨xs ++ zc (.float .f64 0) sp⟩ 27)] := by
  have h8 : Value.bool (decide ((i : Int) < (M : Int))) = .bool false := by rw [decide_eq_false (by omega)]
  show Goes Tryz.prog w0 F cs0 _ ⟨13, #[.slice la M sc, r 1, r 2, .slice (some ⟨ob, 0, none⟩) i (i + sp), .int .i64 i, r 5, r 6, r 7, r 8, r 9, r 10, r 11, r 12, r 13, r 14, r 15, r 16, r 17, r 18, r 19, r 20, r 21, r 22, r 23, r 24], [.code (codeAt Tryz.prog 13 [1, 1, 0, 1, 0, 0]), .inLoop (codeAt Tryz.prog 13 [1, 1, 0, 1, 0, 0]), .inBlock 0, .code (codeAt Tryz.prog 13 [1, 1, 1])], [], .run, .normal, none⟩ [] s [(ob, .cells ⟨xs ++ zc (.float .f64 0) sp⟩ 27)]
  refine Goes.last [] 100000 [.fix 8 (.bool (false)), .brc false] (v := (.slice (some ⟨ob, 0, none⟩) (i) ((i + sp)))) (s' := s) (L' := [(ob, (.cells { toList := xs ++ zc (Value.float FloatKind.f64 0) sp } 27))]) (ob := [(.val (.bool (decide ((↑i : Int) < (↑M : Int)))) (.bool (false)))]) (by kernel_rfl) (by kernel_rfl) ⟨h8, trivial⟩ ?_
  exact hR

set_option maxRecDepth 100000 in
theorem hw_f (w0 : World) (la : Option Addr) (M sc : Nat) (i : Nat) (r : Nat → Value) (s : Nat) (hi : i < M) (hib : ¬ i < 1048576) (ob sp : Nat) (xs : List Value) (F : List (Nat × Obj)) (cs0 : List Frame) (R : Ending → World → Prop)
    (hR : ∀ w', Good w0 s ([(ob, .cells ⟨xs ++ zc (.float .f64 0) sp⟩ 27)] ++ F) w' → R (.returned (.slice (some ⟨ob, 0, none⟩) i (i + sp))) w') :
    Goes Tryz.prog w0 F cs0 (Ends Tryz.prog 13 R cs0) (hwFr la M sc (.slice (some ⟨ob, 0, none⟩) i (i + sp)) i r) [] s [(ob, .cells ⟨xs ++ zc (.float .f64 0) sp⟩ 27)] := by
  have h8 : Value.bool (decide ((i : Int) < (M : Int))) = .bool true := by rw [decide_eq_true (by omega)]
  have h11 : Value.bool (decide ((i : Int) < 1048576)) = .bool false := by rw [decide_eq_false (by omega)]
  show Goes Tryz.prog w0 F cs0 _ ⟨13, #[.slice la M sc, r 1, r 2, .slice (some ⟨ob, 0, none⟩) i (i + sp), .int .i64 i, r 5, r 6, r 7, r 8, r 9, r 10, r 11, r 12, r 13, r 14, r 15, r 16, r 17, r 18, r 19, r 20, r 21, r 22, r 23, r 24], [.code (codeAt Tryz.prog 13 [1, 1, 0, 1, 0, 0]), .inLoop (codeAt Tryz.prog 13 [1, 1, 0, 1, 0, 0]), .inBlock 0, .code (codeAt Tryz.prog 13 [1, 1, 1])], [], .run, .normal, none⟩ [] s [(ob, .cells ⟨xs ++ zc (.float .f64 0) sp⟩ 27)]
  refine Goes.last [] 100000 [.fix 8 (.bool (true)), .fix 11 (.bool (false)), .brc false] (v := (.slice (some ⟨ob, 0, none⟩) (i) ((i + sp)))) (s' := s) (L' := [(ob, (.cells { toList := xs ++ zc (Value.float FloatKind.f64 0) sp } 27))]) (ob := [(.val (.bool (decide ((↑i : Int) < 1048576))) (.bool (false))), (.val (.bool (decide ((↑i : Int) < (↑M : Int)))) (.bool (true)))]) (by kernel_rfl) (by kernel_rfl) ⟨h11, h8, trivial⟩ ?_
  exact hR

set_option maxRecDepth 100000 in
theorem hw_z (w0 : World) (la : Option Addr) (M sc : Nat) (i : Nat) (r : Nat → Value) (s : Nat) (hi : ¬ i < M) (F : List (Nat × Obj)) (cs0 : List Frame) (R : Ending → World → Prop)
    (hR : ∀ w', Good w0 s ([] ++ F) w' → R (.returned (.slice none 0 0)) w') :
    Goes Tryz.prog w0 F cs0 (Ends Tryz.prog 13 R cs0) (hwFr la M sc (.slice none 0 0) i r) [] s [] := by
  have h8 : Value.bool (decide ((i : Int) < (M : Int))) = .bool false := by rw [decide_eq_false (by omega)]
  show Goes Tryz.prog w0 F cs0 _ ⟨13, #[.slice la M sc, r 1, r 2, .slice none 0 0, .int .i64 i, r 5, r 6, r 7, r 8, r 9, r 10, r 11, r 12, r 13, r 14, r 15, r 16, r 17, r 18, r 19, r 20, r 21, r 22, r 23, r 24], [.code (codeAt Tryz.prog 13 [1, 1, 0, 1, 0, 0]), .inLoop (codeAt Tryz.prog 13 [1, 1, 0, 1, 0, 0]), .inBlock 0, .code (codeAt Tryz.prog 13 [1, 1, 1])], [], .run, .normal, none⟩ [] s []
  refine Goes.last [] 100000 [.fix 8 (.bool (false)), .brc false] (v := (.slice none (0) (0))) (s' := s) (L' := []) (ob := [(.val (.bool (decide ((↑i : Int) < (↑M : Int)))) (.bool (false)))]) (by kernel_rfl) (by kernel_rfl) ⟨h8, trivial⟩ ?_
  exact hR

/-- HistWhole: whole numbers as floating-point ones. -/
theorem c_histWhole (w0 : World) (la : Option Addr) (M sc : Nat) (V : Nat → Int) (hold : ∀ a, la = some a → ∀ i, i < M → w0.cell? (a.add (i * 1)) = some (.int .i64 (V i))) (hla : la = none → M = 0) (s : Nat) (F : List (Nat × Obj)) (w : World) (g : Good w0 s F w) :
    Calls Tryz.prog 13 #[.slice la M sc] w fun e w' => ∃ v' : PU, ∃ s', v'.n = s ∧ e = .returned (hwVal v'.x (min M 1048576) v'.y) ∧
      Good w0 s' (hwObj (fun i => enc ((V i).tmod 1073741824)) v'.x (min M 1048576) v'.y ++ F) w' := by
  refine Goes.calls (L := []) (F := F) g fun cs0 => ?_
  refine Goes.seg [] 100000 [] (fr' := ⟨13, #[(.slice la (M) (sc)), u, (.slice none (0) (0)), (.slice none (0) (0)), (.int .i64 (0)), u, u, u, u, u, u, u, u, u, u, u, u, u, u, u, u, u, u, u, u], [.code (codeAt Tryz.prog 13 [1, 1, 0, 1, 0]), .inBlock 0, .code (codeAt Tryz.prog 13 [1, 1, 1])], [], .run, .normal, none⟩) (cs' := []) (s' := s) (L' := []) (ob := []) (by kernel_rfl) (by kernel_rfl) trivial ?_
  refine Goes.first _ _ rfl rfl rfl ?_
  by_cases h0 : 0 < M
  · obtain ⟨a, rfl⟩ : ∃ a, la = some a := by
      cases la with
      | none => have := hla rfl; omega
      | some a => exact ⟨a, rfl⟩
    have hold' := hold a rfl
    have hK : ∀ i, min M 1048576 = i → 1 ≤ i → ∀ b sp, hwVal b (min M 1048576) sp = .slice (some ⟨b, 0, none⟩) i (i + sp) ∧ hwObj (fun i => enc ((V i).tmod 1073741824)) b (min M 1048576) sp = [(b, .cells ⟨fl (fun i => enc ((V i).tmod 1073741824)) i ++ zc (.float .f64 0) sp⟩ 27)] := fun i hi h1 b sp => by
      have hne : ¬ i = 0 := by omega
      simp only [hi, hwVal, hwObj, hne, if_false]
      exact ⟨trivial, trivial⟩
    have key : ∀ (k i ob sp : Nat) (r : Nat → Value) (s1 : Nat), min M 1048576 - i = k → 1 ≤ i → i ≤ min M 1048576 →
        Goes Tryz.prog w0 F cs0 (Ends Tryz.prog 13 (fun e w' => ∃ v' : PU, ∃ s', v'.n = s ∧ e = .returned (hwVal v'.x (min M 1048576) v'.y) ∧ Good w0 s' (hwObj (fun i => enc ((V i).tmod 1073741824)) v'.x (min M 1048576) v'.y ++ F) w') cs0)
          (hwFr (some a) M sc (.slice (some ⟨ob, 0, none⟩) i (i + sp)) i r) [] s1 [(ob, .cells ⟨fl (fun i => enc ((V i).tmod 1073741824)) i ++ zc (.float .f64 0) sp⟩ 27)] := by
      intro k
      induction k using Nat.strongRecOn with
      | _ k ih =>
        intro i ob sp r s1 hk h1i hiM
        have fin : min M 1048576 = i → ∀ w', Good w0 s1 ([(ob, .cells ⟨fl (fun i => enc ((V i).tmod 1073741824)) i ++ zc (.float .f64 0) sp⟩ 27)] ++ F) w' →
            (∃ v' : PU, ∃ s', v'.n = s ∧ Ending.returned (.slice (some ⟨ob, 0, none⟩) i (i + sp)) = .returned (hwVal v'.x (min M 1048576) v'.y) ∧ Good w0 s' (hwObj (fun i => enc ((V i).tmod 1073741824)) v'.x (min M 1048576) v'.y ++ F) w') := fun he w' g' => by
          obtain ⟨e1, e2⟩ := hK i he h1i ob sp
          exact ⟨⟨s, ob, sp, undef, [], fun _ => 0⟩, s1, rfl, by rw [e1], by rw [e2]; exact g'⟩
        by_cases hi : i < M
        · by_cases hib : i < 1048576
          · refine hw_o w0 a M sc _ (V i) _ i r s1 hi hib ob sp _ (by simp [fl]) (hold' i hi) rfl rfl F cs0 _ fun ob' sp' r' s' => ?_
            rw [← fl_succ (fun i => enc ((V i).tmod 1073741824)) i]
            exact ih (min M 1048576 - (i + 1)) (by omega) (i + 1) ob' sp' r' s' rfl (by omega) (by omega)
          · exact hw_f w0 (some a) M sc i r s1 hi hib ob sp _ F cs0 _ (fin (by omega))
        · exact hw_e w0 (some a) M sc i r s1 hi ob sp _ F cs0 _ (fin (by omega))
    refine hw_n w0 a M sc _ (V 0) _ 0 (fun z => match z with | 2 => .slice none 0 0 | _ => u) s h0 (by omega) (hold' 0 h0) rfl rfl F cs0 _ fun ob' sp' r' s' => ?_
    exact key (min M 1048576 - 1) 1 ob' sp' r' s' rfl (Nat.le_refl 1) (by omega)
  · have e : M = 0 := by omega
    subst e
    refine hw_z w0 la 0 sc 0 (fun z => match z with | 2 => .slice none 0 0 | _ => u) s (by omega) F cs0 _ fun w' g' => ?_
    exact ⟨⟨s, 0, 0, undef, [], fun _ => 0⟩, s, rfl, rfl, g'⟩

end Go.Sx
