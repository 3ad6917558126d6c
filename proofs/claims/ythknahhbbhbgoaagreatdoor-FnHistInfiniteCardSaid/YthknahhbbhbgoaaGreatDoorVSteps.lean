/- The contracts of stepsTo and setupTo: steps with no labels at time 0, bounds alone. For one step at least. -/
import Derived.Test.YthknahhbbhbgoaaGreatDoorVRun
namespace Go.Sx
open Go Go.Proofs Go.Fl
open Go.Lib (strCells)

set_option maxRecDepth 100000 in
/-- stepTo: a step with no labels. -/
theorem c_stepTo (w0 : World) (kd : Int) (v s : Nat) (F : List (Nat × Obj)) (w : World) (g : Good w0 s F w) :
    Calls Tryz.prog 48 #[.agg #[.int .i64 kd, .float .f64 v, .slice none 0 0, .int .i64 0]] w fun e w' => ∃ v' : PU, ∃ s', v'.n = s ∧ e = .returned (.agg #[.int .i64 kd, .float .f64 v, .slice none 0 0, .int .i64 0]) ∧ Good w0 s' F w' := by
  refine Goes.calls (L := []) (F := F) g fun cs0 => ?_
  refine Goes.seg [] 100000 [] (fr' := ⟨48, #[(.agg #[(.int .i64 (kd)), (.float .f64 (v)), (.slice none (0) (0)), (.int .i64 (0))]), (.pointer (some ⟨s, 0, none⟩)), (.pointer (some ⟨s + 1, 0, none⟩)), u, u, u, u, u, u, u, u, u, u], [.code (codeAt Tryz.prog 48 [1, 0]), .code (codeAt Tryz.prog 48 [1, 1])], [], .run, .normal, none⟩) (cs' := []) (s' := s + 2) (L' := [(s, (.cells #[(.int .i64 (kd)), (.float .f64 (v)), (.slice none (0) (0)), (.int .i64 (0))] 75)), (s + 1, (.cells #[(.int .i64 (0)), (.float .f64 (0)), (.slice none (0) (0)), (.int .i64 (0))] 62))]) (ob := []) (by kernel_rfl) (by kernel_rfl) trivial ?_
  refine Goes.drawn [.rdo [] [], .rdo [0] [.at 0], .rdo [] [], .rdo [0] [.at 0], .rdo [] [], .rdo [0] [.at 0], .inlr [] 100000 [.go, .brc false], .rdo [] [], .rdo [0] [.at 0], .rdo [] [], .mem [1] [] [.at 0]] 0 rfl rfl rfl (by kernel_rfl) (by kernel_rfl) (by kernel_rfl) (fun ν0 => ⟨[(.agg #[(.int .i64 (kd)), (.float .f64 (v)), (.slice none (0) (0)), (.int .i64 (0))]), (.pointer (some ⟨s, 0, none⟩)), (.pointer (some ⟨s + 1, 0, none⟩)), (.pointer (some ⟨s, 0, none⟩)), (.int .i64 (kd)), (.pointer (some ⟨s, 1, none⟩)), (.float .f64 (v)), (.pointer (some ⟨s, 2, none⟩)), (.slice none (0) (0)), (.slice none (0) (0)), (.pointer (some ⟨s, 3, none⟩)), (.int .i64 (0)), (.agg #[(.int .i64 (kd)), (.float .f64 (v)), (.slice none (0) (0)), (.int .i64 (0))])], [some (s, (.cells #[(.int .i64 (kd)), (.float .f64 (v)), (.slice none (0) (0)), (.int .i64 (0))] 75)), some (s + 1, (.cells #[(.int .i64 (kd)), (.float .f64 (v)), (.slice none (0) (0)), (.int .i64 (0))] 62))]⟩) (fun ν0 => []) (fun ν0 => []) (fun ν0 => []) (fun ν0 => by kernel_rfl) (fun ν0 => by kernel_rfl) (fun ν0 => trivial) (fun ν0 => trivial) (fun ν0 => trivial) ?_
  intro ν0 s0
  refine Goes.last [] 100000 [.at 1] (v := (.agg #[(.int .i64 (kd)), (.float .f64 (v)), (.slice none (0) (0)), (.int .i64 (0))])) (s' := s0) (L' := [(s, (.cells #[(.int .i64 (kd)), (.float .f64 (v)), (.slice none (0) (0)), (.int .i64 (0))] 75)), (s + 1, (.cells #[(.int .i64 (kd)), (.float .f64 (v)), (.slice none (0) (0)), (.int .i64 (0))] 62))]) (ob := []) (by kernel_rfl) (by kernel_rfl) trivial ?_
  intro w' g'
  have g2 := g'.picked [] rfl rfl
  exact ⟨⟨s, 0, 0, undef, [], fun _ => 0⟩, s0, rfl, rfl, g2⟩

end Go.Sx

namespace Go.Sx
open Go Go.Proofs Go.Fl
open Go.Lib (strCells)

section
variable {P : Program} {w0 : World} {t e ty : TypeId}
theorem ho_own_none (z : Value) (sz bytes : Nat) (ht : P.underlying t = some (.slice e)) (hinfo : (P.info? e).map (fun i => (i.zero, i.size, i.bytes)) = some (some z, sz, bytes)) (hzs : z.cells.size = sz) (hsz : 0 < sz)
    (bo b off m c : Nat) (cs : List Value) (te : TypeId) (f : Nat × Nat) (news : List Value) (hcut : (cs.drop off).take (m * sz) = news) (hl : news.length = m * sz)
    (h1 : ∀ u ∈ news, u.oneCell' = true) (hb : m * bytes ≤ 140737488355328) (h63 : m ≤ 9223372036854775807) :
    HO.holds P w0 PU.n ⟨appendSem t ty (.slice (some ⟨bo, 0, none⟩) 0 0) (.slice (some ⟨b, off, none⟩) m c), [(b, .cells ⟨cs⟩ te f)], [(bo, .cells #[] e)],
      fun u => (.slice (some ⟨u.x, 0, none⟩) m (m + u.y), [(u.x, .cells ⟨news ++ zc z u.y⟩ e)], [])⟩ := by
  have h := ho_own (P := P) (w0 := w0) (t := t) (ty := ty) (e := e) z sz bytes ht hinfo hzs hsz bo 0 0 [] (by simp) b off m c cs te f news hcut hl h1 (by rw [Nat.zero_add]; exact hb) (by rw [Nat.zero_add]; exact h63)
  simp only [Nat.zero_add, List.nil_append, Nat.add_zero] at h
  exact h
end

theorem fl_one (x : Nat → Nat) (n : Nat) : ∀ u ∈ fl x n, u.oneCell' = true := by
  intro u hu
  simp only [fl, List.mem_map] at hu
  obtain ⟨i, _, rfl⟩ := hu
  rfl

set_option maxRecDepth 100000 in
/-- setupTo: bounds alone, at a block of their own. -/
theorem c_setupTo (w0 : World) (b n c : Nat) (x : Nat → Nat) (rest0 : List Value) (hn : n ≤ 1099511627776) (s : Nat) (F : List (Nat × Obj)) (w : World) (g : Good w0 s ([(b, .cells ⟨fl x n ++ rest0⟩ 27)] ++ F) w) :
    Calls Tryz.prog 33 #[.agg #[.slice (some ⟨b, 0, none⟩) n c, .float .f64 0, .float .f64 0, .int .u32 0, .int .i64 0, .float .f64 0, .int .i64 0, .int .i64 0]] w fun e w' => ∃ v' : PU, ∃ s', v'.n = s ∧
      e = .returned (.agg #[.slice (some ⟨v'.x, 0, none⟩) n (n + v'.y), .float .f64 0, .float .f64 0, .int .u32 0, .int .i64 0, .float .f64 0, .int .i64 0, .int .i64 0]) ∧
      Good w0 s' ([(b, .cells ⟨fl x n ++ rest0⟩ 27)] ++ ([] ++ ([(v'.x, .cells ⟨fl x n ++ zc (.float .f64 0) v'.y⟩ 27)] ++ F))) w' := by
  refine Goes.calls (L := [(b, .cells ⟨fl x n ++ rest0⟩ 27)]) (F := F) g fun cs0 => ?_
  refine Goes.seg [] 100000 [] (fr' := ⟨33, #[(.agg #[(.slice (some ⟨b, 0, none⟩) (n) (c)), (.float .f64 (0)), (.float .f64 (0)), (.int .u32 (0)), (.int .i64 (0)), (.float .f64 (0)), (.int .i64 (0)), (.int .i64 (0))]), (.pointer (some ⟨s, 0, none⟩)), (.pointer (some ⟨s + 1, 0, none⟩)), u, u, u, u, u, u, u, u, u, u, u, u, u, u, u, u, u, u, u], [.code (codeAt Tryz.prog 33 [1, 0]), .code (codeAt Tryz.prog 33 [1, 1])], [], .run, .normal, none⟩) (cs' := []) (s' := s + 2) (L' := [(b, (.cells { toList := fl x n ++ rest0 } 27)), (s, (.cells #[(.slice (some ⟨b, 0, none⟩) (n) (c)), (.float .f64 (0)), (.float .f64 (0)), (.int .u32 (0)), (.int .i64 (0)), (.float .f64 (0)), (.int .i64 (0)), (.int .i64 (0))] 38)), (s + 1, (.cells #[(.slice none (0) (0)), (.float .f64 (0)), (.float .f64 (0)), (.int .u32 (0)), (.int .i64 (0)), (.float .f64 (0)), (.int .i64 (0)), (.int .i64 (0))] 59))]) (ob := []) (by kernel_rfl) (by kernel_rfl) trivial ?_
  refine Goes.drawn [.mem [] [3] [], .rdo [] [], .rdo [1] [.at 0], .hand [0] [3] [] (fun u => (.slice (some ⟨u.x, 0, none⟩) n (n + u.y), [(u.x, .cells ⟨fl x n ++ zc (.float .f64 0) u.y⟩ 27)], [])), .rdo [] [], .rdo [1] [.at 0], .rdo [] [], .rdo [1] [.at 0], .rdo [] [], .rdo [1] [.at 0], .rdo [] [], .rdo [1] [.at 0], .rdo [] [], .rdo [1] [.at 0], .rdo [] [], .rdo [1] [.at 0], .rdo [] [], .rdo [1] [.at 0], .rdo [] [], .mem [2] [] [.at 0]] 1 rfl rfl rfl (by kernel_rfl) (by kernel_rfl) (by kernel_rfl) (fun ν0 => ⟨[(.agg #[(.slice (some ⟨b, 0, none⟩) (n) (c)), (.float .f64 (0)), (.float .f64 (0)), (.int .u32 (0)), (.int .i64 (0)), (.float .f64 (0)), (.int .i64 (0)), (.int .i64 (0))]), (.pointer (some ⟨s, 0, none⟩)), (.pointer (some ⟨s + 1, 0, none⟩)), (.slice (some ⟨(ν0 0).n, 0, none⟩) (0) (0)), (.pointer (some ⟨s, 0, none⟩)), (.slice (some ⟨b, 0, none⟩) (n) (c)), (.slice (some ⟨(ν0 3).x, 0, none⟩) (n) ((n + ((ν0 3).y)))), (.pointer (some ⟨s, 1, none⟩)), (.float .f64 (0)), (.pointer (some ⟨s, 2, none⟩)), (.float .f64 (0)), (.pointer (some ⟨s, 3, none⟩)), (.int .u32 (0)), (.pointer (some ⟨s, 4, none⟩)), (.int .i64 (0)), (.pointer (some ⟨s, 5, none⟩)), (.float .f64 (0)), (.pointer (some ⟨s, 6, none⟩)), (.int .i64 (0)), (.pointer (some ⟨s, 7, none⟩)), (.int .i64 (0)), (.agg #[(.slice (some ⟨(ν0 3).x, 0, none⟩) (n) ((n + ((ν0 3).y)))), (.float .f64 (0)), (.float .f64 (0)), (.int .u32 (0)), (.int .i64 (0)), (.float .f64 (0)), (.int .i64 (0)), (.int .i64 (0))])], [some (b, (.cells { toList := fl x n ++ rest0 } 27)), some (s, (.cells #[(.slice (some ⟨b, 0, none⟩) (n) (c)), (.float .f64 (0)), (.float .f64 (0)), (.int .u32 (0)), (.int .i64 (0)), (.float .f64 (0)), (.int .i64 (0)), (.int .i64 (0))] 38)), some (s + 1, (.cells #[(.slice (some ⟨(ν0 3).x, 0, none⟩) (n) ((n + ((ν0 3).y)))), (.float .f64 (0)), (.float .f64 (0)), (.int .u32 (0)), (.int .i64 (0)), (.float .f64 (0)), (.int .i64 (0)), (.int .i64 (0))] 59)), some ((ν0 3).x, (.cells { toList := fl x n ++ zc (Value.float FloatKind.f64 0) (ν0 3).y } 27))]⟩) (fun ν0 => []) (fun ν0 => []) (fun ν0 => [⟨(appendSem 22 22 (.slice (some ⟨(ν0 0).n, 0, none⟩) 0 0) (.slice (some ⟨b, 0, none⟩) n c)), [(b, (.cells { toList := fl x n ++ rest0 } 27))], [((ν0 0).n, (.cells #[] 27))], (fun u => (.slice (some ⟨u.x, 0, none⟩) n (n + u.y), [(u.x, .cells ⟨fl x n ++ zc (.float .f64 0) u.y⟩ 27)], []))⟩]) (fun ν0 => by kernel_rfl) (fun ν0 => by kernel_rfl) (fun ν0 => trivial) (fun ν0 => trivial) (fun ν0 => ⟨(ho_own_none (.float .f64 0) 1 8 (by kernel_rfl) (by kernel_rfl) rfl (by decide) _ b 0 n c _ _ _ (fl x n) (fl_cut x n rest0) (by simp [fl]) (fl_one x n) (by omega) (by omega)), trivial⟩) ?_
  intro ν0 s0
  refine Goes.last [] 100000 [.at 2] (v := (.agg #[(.slice (some ⟨(ν0 3).x, 0, none⟩) (n) ((n + ((ν0 3).y)))), (.float .f64 (0)), (.float .f64 (0)), (.int .u32 (0)), (.int .i64 (0)), (.float .f64 (0)), (.int .i64 (0)), (.int .i64 (0))])) (s' := s0) (L' := [(b, (.cells { toList := fl x n ++ rest0 } 27)), (s, (.cells #[(.slice (some ⟨b, 0, none⟩) (n) (c)), (.float .f64 (0)), (.float .f64 (0)), (.int .u32 (0)), (.int .i64 (0)), (.float .f64 (0)), (.int .i64 (0)), (.int .i64 (0))] 38)), (s + 1, (.cells #[(.slice (some ⟨(ν0 3).x, 0, none⟩) (n) ((n + ((ν0 3).y)))), (.float .f64 (0)), (.float .f64 (0)), (.int .u32 (0)), (.int .i64 (0)), (.float .f64 (0)), (.int .i64 (0)), (.int .i64 (0))] 59)), ((ν0 3).x, (.cells { toList := fl x n ++ zc (Value.float FloatKind.f64 0) (ν0 3).y } 27))]) (ob := []) (by kernel_rfl) (by kernel_rfl) trivial ?_
  intro w' g'
  have g2 := g'.picked [0, 3] rfl rfl
  exact ⟨⟨s, (ν0 3).x, (ν0 3).y, undef, [], fun _ => 0⟩, s0, rfl, rfl, g2⟩

end Go.Sx

namespace Go.Sx
open Go Go.Proofs Go.Fl
open Go.Lib (strCells)
def stZero : Value := .agg #[.int .i64 0, .float .f64 0, .slice none 0 0, .int .i64 0]

noncomputable def spFr (st M sc : Nat) (acc : Value) (i : Nat) (r : Nat → Value) : Frame := ⟨34, #[.slice (some ⟨st, 0, none⟩) M sc, r 1, r 2, acc, .int .i64 i, r 5, r 6, r 7, r 8, r 9, r 10, r 11, r 12, r 13, r 14, r 15, r 16, r 17, r 18, r 19], [.code (codeAt Tryz.prog 34 [1, 1, 0, 1, 0, 0]), .inLoop (codeAt Tryz.prog 34 [1, 1, 0, 1, 0, 0]), .inBlock 0, .code (codeAt Tryz.prog 34 [1, 1, 1])], [], .run, .normal, none⟩

set_option maxRecDepth 100000 in
theorem sp_nil (w0 : World) (st M sc v : Nat) (kd : Int) (sl : List Value) (i : Nat) (r : Nat → Value) (s : Nat) (hM : M ≤ 1099511627776) (hi : i < M) (hrow : ∀ j u, ([.int .i64 kd, .float .f64 v, .slice none 0 0, .int .i64 0] : List Value)[j]? = some u → sl[i * 4 + j]? = some u)
    (F : List (Nat × Obj)) (cs0 : List Frame) (Φ : Machine → Prop) (ih : ∀ ob' sp' r' s', Goes Tryz.prog w0 F cs0 Φ (spFr st M sc (.slice (some ⟨ob', 0, none⟩) 1 (1 + sp')) (i + 1) r') [] s' [(st, .cells ⟨sl⟩ 75), (ob', .cells ⟨[.int .i64 kd, .float .f64 v, .slice none 0 0, .int .i64 0] ++ zc stZero sp'⟩ 62)]) :
    Goes Tryz.prog w0 F cs0 Φ (spFr st M sc (.slice none 0 0) i r) [] s [(st, .cells ⟨sl⟩ 75)] := by
  have hlt0 : decide ((i : Int) < (M : Int)) = true := decide_eq_true (by omega)
  show Goes Tryz.prog w0 F cs0 Φ ⟨34, #[.slice (some ⟨st, 0, none⟩) M sc, r 1, r 2, .slice none 0 0, .int .i64 i, r 5, r 6, r 7, r 8, r 9, r 10, r 11, r 12, r 13, r 14, r 15, r 16, r 17, r 18, r 19], [.code (codeAt Tryz.prog 34 [1, 1, 0, 1, 0, 0]), .inLoop (codeAt Tryz.prog 34 [1, 1, 0, 1, 0, 0]), .inBlock 0, .code (codeAt Tryz.prog 34 [1, 1, 1])], [], .run, .normal, none⟩ [] s [(st, .cells ⟨sl⟩ 75)]
  refine Goes.seg [48] 16 [.br true] (fr' := ⟨34, #[(.slice (some ⟨st, 0, none⟩) (M) (sc)), (r 1), (r 2), (.slice none (0) (0)), (.int .i64 ((↑i : Int))), (.int .i64 ((↑i : Int))), (.slice (some ⟨st, 0, none⟩) (M) (sc)), (.int .i64 ((↑M : Int))), (.bool (decide ((↑i : Int) < (↑M : Int)))), (r 9), (r 10), (.slice none (0) (0)), (.slice (some ⟨st, 0, none⟩) (M) (sc)), (.int .i64 ((↑i : Int))), (r 14), (r 15), (r 16), (r 17), (r 18), (r 19)], [.inRegion (opsAt Tryz.prog 34 [1, 1, 0, 1, 0, 0, 1, 0, 0]) [3, 4, 5, 6, 7, 8], .inBlock 1, .code (codeAt Tryz.prog 34 [1, 1, 0, 1, 0, 0, 1, 1]), .inLoop (codeAt Tryz.prog 34 [1, 1, 0, 1, 0, 0]), .inBlock 0, .code (codeAt Tryz.prog 34 [1, 1, 1])], [], .run, .normal, none⟩) (cs' := []) (s' := s) (L' := [(st, (.cells { toList := sl } 75))]) (ob := [(.test (decide ((↑i : Int) < (↑M : Int))) true)]) (by kernel_rfl) (by kernel_rfl) (by repeat first | exact trivial | (refine And.intro (by first | assumption | rfl) ?_)) ?_
  refine Goes.inOrder [.rdo [] [], .rdo [] [], .rdo [] [], .hand [] [] [] (fun _ => (.pointer (some ⟨st, i * 4, none⟩), [], [])), .hand [0] [] [] (fun _ => (.agg #[.int .i64 kd, .float .f64 v, .slice none 0 0, .int .i64 0], [], [])), .call [] [] [] 48 (fun _ => (.agg #[.int .i64 kd, .float .f64 v, .slice none 0 0, .int .i64 0], [], [])), .mem [] [1] [], .hand [1] [] [2] (fun u => (.slice (some ⟨u.n, 0, none⟩) 1 (1 + u.y), [], [(u.n, .cells ⟨[.int .i64 kd, .float .f64 v, .slice none 0 0, .int .i64 0] ++ zc stZero u.y⟩ 62)])), .rdo [] []] 2 rfl rfl rfl rfl (fun ν0 => ⟨[(.slice (some ⟨st, 0, none⟩) (M) (sc)), (r 1), (r 2), (.slice (some ⟨(ν0 7).n, 0, none⟩) (1) ((1 + ((ν0 7).y)))), (.int .i64 ((↑i : Int))), (.int .i64 ((↑i : Int))), (.slice (some ⟨st, 0, none⟩) (M) (sc)), (.int .i64 ((↑M : Int))), (.bool (decide ((↑i : Int) < (↑M : Int)))), (r 9), (r 10), (.slice none (0) (0)), (.slice (some ⟨st, 0, none⟩) (M) (sc)), (.int .i64 ((↑i : Int))), (.pointer (some ⟨st, ((((0 + i) + i) + i) + i), none⟩)), (.agg #[(.int .i64 (kd)), (.float .f64 (v)), (.slice none (0) (0)), (.int .i64 (0))]), (.agg #[(.int .i64 (kd)), (.float .f64 (v)), (.slice none (0) (0)), (.int .i64 (0))]), (.slice (some ⟨(ν0 6).n, 0, none⟩) (1) (1)), (.slice (some ⟨(ν0 7).n, 0, none⟩) (1) ((1 + ((ν0 7).y)))), (r 19)], [some (st, (.cells { toList := sl } 75)), some ((ν0 6).n, (.cells #[(.int .i64 (kd)), (.float .f64 (v)), (.slice none (0) (0)), (.int .i64 (0))] 62)), some ((ν0 7).n, (.cells { toList := [Value.int IntKind.i64 kd, Value.float FloatKind.f64 v, Value.slice none 0 0, Value.int IntKind.i64 0] ++ zc stZero (ν0 7).y } 62))]⟩) (fun ν0 => []) (fun ν0 => [⟨48, [(.agg #[(.int .i64 (kd)), (.float .f64 (v)), (.slice none (0) (0)), (.int .i64 (0))])], [], [], (fun _ => (.agg #[.int .i64 kd, .float .f64 v, .slice none 0 0, .int .i64 0], [], []))⟩]) (fun ν0 => [⟨(indexSem 73 (.slice (some ⟨st, 0, none⟩) M sc) (.int .i64 i)), [], [], (fun _ => (.pointer (some ⟨st, i * 4, none⟩), [], []))⟩, ⟨(varSem 75 (.pointer (some ⟨st, i * 4, none⟩))), [(st, (.cells { toList := sl } 75))], [], (fun _ => (.agg #[.int .i64 kd, .float .f64 v, .slice none 0 0, .int .i64 0], [], []))⟩, ⟨(appendSem 63 63 (.slice none 0 0) (.slice (some ⟨(ν0 6).n, 0, none⟩) 1 1)), [((ν0 6).n, (.cells #[(.int .i64 (kd)), (.float .f64 (v)), (.slice none (0) (0)), (.int .i64 (0))] 62))], [], (fun u => (.slice (some ⟨u.n, 0, none⟩) 1 (1 + u.y), [], [(u.n, .cells ⟨[.int .i64 kd, .float .f64 v, .slice none 0 0, .int .i64 0] ++ zc stZero u.y⟩ 62)]))⟩]) (fun ν0 => by kernel_rfl) (fun ν0 => by kernel_rfl) (fun ν0 => trivial) (fun ν0 => ⟨(fun s' F w g => c_stepTo w0 kd v s' _ w g), trivial⟩) (fun ν0 => ⟨(ho_index 73 75 4 (by kernel_rfl) (by kernel_rfl) st M sc i hi), (ho_row 75 (by kernel_rfl) 4 (by kernel_rfl) st (i * 4) sl 75 (0, 0) [.int .i64 kd, .float .f64 v, .slice none 0 0, .int .i64 0] rfl hrow), (ho_nil stZero 4 48 (by kernel_rfl) (by kernel_rfl) rfl (by decide) _ 0 1 1 _ _ _ [.int .i64 kd, .float .f64 v, .slice none 0 0, .int .i64 0] rfl rfl (by decide) (by decide) (by decide)), trivial⟩) ?_
  intro ν0 s0
  refine Goes.seg [48] 100000 [] (fr' := ⟨34, #[(.slice (some ⟨st, 0, none⟩) (M) (sc)), (r 1), (r 2), (.slice (some ⟨(ν0 7).n, 0, none⟩) (1) ((1 + ((ν0 7).y)))), (.int .i64 (IntKind.i64.wrap ((↑i : Int) + 1))), (.int .i64 ((↑i : Int))), (.slice (some ⟨st, 0, none⟩) (M) (sc)), (.int .i64 ((↑M : Int))), (.bool (decide ((↑i : Int) < (↑M : Int)))), (.int .i64 ((↑i : Int))), (.int .i64 (IntKind.i64.wrap ((↑i : Int) + 1))), (.slice none (0) (0)), (.slice (some ⟨st, 0, none⟩) (M) (sc)), (.int .i64 ((↑i : Int))), (.pointer (some ⟨st, ((((0 + i) + i) + i) + i), none⟩)), (.agg #[(.int .i64 (kd)), (.float .f64 (v)), (.slice none (0) (0)), (.int .i64 (0))]), (.agg #[(.int .i64 (kd)), (.float .f64 (v)), (.slice none (0) (0)), (.int .i64 (0))]), (.slice (some ⟨(ν0 6).n, 0, none⟩) (1) (1)), (.slice (some ⟨(ν0 7).n, 0, none⟩) (1) ((1 + ((ν0 7).y)))), (r 19)], [.inLoop (codeAt Tryz.prog 34 [1, 1, 0, 1, 0, 0]), .inBlock 0, .code (codeAt Tryz.prog 34 [1, 1, 1])], [], .run, .normal, none⟩) (cs' := []) (s' := s0) (L' := [(st, (.cells { toList := sl } 75)), ((ν0 6).n, (.cells #[(.int .i64 (kd)), (.float .f64 (v)), (.slice none (0) (0)), (.int .i64 (0))] 62)), ((ν0 7).n, (.cells { toList := [Value.int IntKind.i64 kd, Value.float FloatKind.f64 v, Value.slice none 0 0, Value.int IntKind.i64 0] ++ zc stZero (ν0 7).y } 62))]) (ob := []) (by kernel_rfl) (by kernel_rfl) trivial ?_
  rw [wrap_succ hi (by omega)]
  refine Goes.pick [0, 2] rfl rfl ?_
  exact Goes.again _ _ rfl rfl rfl (ih (ν0 7).n (ν0 7).y (fun q => match q with | 5 => .int .i64 ((↑i : Int)) | 6 => .slice (some ⟨st, 0, none⟩) (M) (sc) | 7 => .int .i64 ((↑M : Int)) | 8 => .bool (decide ((↑i : Int) < (↑M : Int))) | 9 => .int .i64 ((↑i : Int)) | 10 => .int .i64 (((i + 1 : Nat) : Int)) | 11 => .slice none (0) (0) | 12 => .slice (some ⟨st, 0, none⟩) (M) (sc) | 13 => .int .i64 ((↑i : Int)) | 14 => .pointer (some ⟨st, ((((0 + i) + i) + i) + i), none⟩) | 15 => .agg #[(.int .i64 (kd)), (.float .f64 (v)), (.slice none (0) (0)), (.int .i64 (0))] | 16 => .agg #[(.int .i64 (kd)), (.float .f64 (v)), (.slice none (0) (0)), (.int .i64 (0))] | 17 => .slice (some ⟨(ν0 6).n, 0, none⟩) (1) (1) | 18 => .slice (some ⟨(ν0 7).n, 0, none⟩) (1) ((1 + ((ν0 7).y))) | q => r q) _)

set_option maxRecDepth 100000 in
theorem sp_own (w0 : World) (st M sc v : Nat) (kd : Int) (sl : List Value) (i : Nat) (r : Nat → Value) (s : Nat) (hM : M ≤ 1099511627776) (hi : i < M) (ob sp : Nat) (xs : List Value) (hxs : xs.length = i * 4) (hrow : ∀ j u, ([.int .i64 kd, .float .f64 v, .slice none 0 0, .int .i64 0] : List Value)[j]? = some u → sl[i * 4 + j]? = some u)
    (F : List (Nat × Obj)) (cs0 : List Frame) (Φ : Machine → Prop) (ih : ∀ ob' sp' r' s', Goes Tryz.prog w0 F cs0 Φ (spFr st M sc (.slice (some ⟨ob', 0, none⟩) (i + 1) ((i + 1) + sp')) (i + 1) r') [] s' [(st, .cells ⟨sl⟩ 75), (ob', .cells ⟨xs ++ [.int .i64 kd, .float .f64 v, .slice none 0 0, .int .i64 0] ++ zc stZero sp'⟩ 62)]) :
    Goes Tryz.prog w0 F cs0 Φ (spFr st M sc (.slice (some ⟨ob, 0, none⟩) i (i + sp)) i r) [] s [(st, .cells ⟨sl⟩ 75), (ob, .cells ⟨xs ++ zc stZero sp⟩ 62)] := by
  have hlt0 : decide ((i : Int) < (M : Int)) = true := decide_eq_true (by omega)
  show Goes Tryz.prog w0 F cs0 Φ ⟨34, #[.slice (some ⟨st, 0, none⟩) M sc, r 1, r 2, .slice (some ⟨ob, 0, none⟩) i (i + sp), .int .i64 i, r 5, r 6, r 7, r 8, r 9, r 10, r 11, r 12, r 13, r 14, r 15, r 16, r 17, r 18, r 19], [.code (codeAt Tryz.prog 34 [1, 1, 0, 1, 0, 0]), .inLoop (codeAt Tryz.prog 34 [1, 1, 0, 1, 0, 0]), .inBlock 0, .code (codeAt Tryz.prog 34 [1, 1, 1])], [], .run, .normal, none⟩ [] s [(st, .cells ⟨sl⟩ 75), (ob, .cells ⟨xs ++ zc stZero sp⟩ 62)]
  refine Goes.seg [48] 16 [.br true] (fr' := ⟨34, #[(.slice (some ⟨st, 0, none⟩) (M) (sc)), (r 1), (r 2), (.slice (some ⟨ob, 0, none⟩) (i) ((i + sp))), (.int .i64 ((↑i : Int))), (.int .i64 ((↑i : Int))), (.slice (some ⟨st, 0, none⟩) (M) (sc)), (.int .i64 ((↑M : Int))), (.bool (decide ((↑i : Int) < (↑M : Int)))), (r 9), (r 10), (.slice (some ⟨ob, 0, none⟩) (i) ((i + sp))), (.slice (some ⟨st, 0, none⟩) (M) (sc)), (.int .i64 ((↑i : Int))), (r 14), (r 15), (r 16), (r 17), (r 18), (r 19)], [.inRegion (opsAt Tryz.prog 34 [1, 1, 0, 1, 0, 0, 1, 0, 0]) [3, 4, 5, 6, 7, 8], .inBlock 1, .code (codeAt Tryz.prog 34 [1, 1, 0, 1, 0, 0, 1, 1]), .inLoop (codeAt Tryz.prog 34 [1, 1, 0, 1, 0, 0]), .inBlock 0, .code (codeAt Tryz.prog 34 [1, 1, 1])], [], .run, .normal, none⟩) (cs' := []) (s' := s) (L' := [(st, (.cells { toList := sl } 75)), (ob, (.cells { toList := xs ++ zc stZero sp } 62))]) (ob := [(.test (decide ((↑i : Int) < (↑M : Int))) true)]) (by kernel_rfl) (by kernel_rfl) (by repeat first | exact trivial | (refine And.intro (by first | assumption | rfl) ?_)) ?_
  refine Goes.inOrder [.rdo [] [], .rdo [] [], .rdo [] [], .hand [] [] [] (fun _ => (.pointer (some ⟨st, i * 4, none⟩), [], [])), .hand [0] [] [] (fun _ => (.agg #[.int .i64 kd, .float .f64 v, .slice none 0 0, .int .i64 0], [], [])), .call [] [] [] 48 (fun _ => (.agg #[.int .i64 kd, .float .f64 v, .slice none 0 0, .int .i64 0], [], [])), .mem [] [2] [], .hand [2] [1] [] (fun u => (.slice (some ⟨u.x, 0, none⟩) (i + 1) (i + 1 + u.y), [(u.x, .cells ⟨xs ++ [.int .i64 kd, .float .f64 v, .slice none 0 0, .int .i64 0] ++ zc stZero u.y⟩ 62)], [])), .rdo [] []] 1 rfl rfl rfl rfl (fun ν0 => ⟨[(.slice (some ⟨st, 0, none⟩) (M) (sc)), (r 1), (r 2), (.slice (some ⟨(ν0 7).x, 0, none⟩) (i + 1) ((i + 1 + ((ν0 7).y)))), (.int .i64 ((↑i : Int))), (.int .i64 ((↑i : Int))), (.slice (some ⟨st, 0, none⟩) (M) (sc)), (.int .i64 ((↑M : Int))), (.bool (decide ((↑i : Int) < (↑M : Int)))), (r 9), (r 10), (.slice (some ⟨ob, 0, none⟩) (i) ((i + sp))), (.slice (some ⟨st, 0, none⟩) (M) (sc)), (.int .i64 ((↑i : Int))), (.pointer (some ⟨st, ((((0 + i) + i) + i) + i), none⟩)), (.agg #[(.int .i64 (kd)), (.float .f64 (v)), (.slice none (0) (0)), (.int .i64 (0))]), (.agg #[(.int .i64 (kd)), (.float .f64 (v)), (.slice none (0) (0)), (.int .i64 (0))]), (.slice (some ⟨(ν0 6).n, 0, none⟩) (1) (1)), (.slice (some ⟨(ν0 7).x, 0, none⟩) (i + 1) ((i + 1 + ((ν0 7).y)))), (r 19)], [some (st, (.cells { toList := sl } 75)), some ((ν0 7).x, (.cells { toList := xs ++ [Value.int IntKind.i64 kd, Value.float FloatKind.f64 v, Value.slice none 0 0, Value.int IntKind.i64 0] ++ zc stZero (ν0 7).y } 62)), some ((ν0 6).n, (.cells #[(.int .i64 (kd)), (.float .f64 (v)), (.slice none (0) (0)), (.int .i64 (0))] 62))]⟩) (fun ν0 => []) (fun ν0 => [⟨48, [(.agg #[(.int .i64 (kd)), (.float .f64 (v)), (.slice none (0) (0)), (.int .i64 (0))])], [], [], (fun _ => (.agg #[.int .i64 kd, .float .f64 v, .slice none 0 0, .int .i64 0], [], []))⟩]) (fun ν0 => [⟨(indexSem 73 (.slice (some ⟨st, 0, none⟩) M sc) (.int .i64 i)), [], [], (fun _ => (.pointer (some ⟨st, i * 4, none⟩), [], []))⟩, ⟨(varSem 75 (.pointer (some ⟨st, i * 4, none⟩))), [(st, (.cells { toList := sl } 75))], [], (fun _ => (.agg #[.int .i64 kd, .float .f64 v, .slice none 0 0, .int .i64 0], [], []))⟩, ⟨(appendSem 63 63 (.slice (some ⟨ob, 0, none⟩) i (i + sp)) (.slice (some ⟨(ν0 6).n, 0, none⟩) 1 1)), [((ν0 6).n, (.cells #[(.int .i64 (kd)), (.float .f64 (v)), (.slice none (0) (0)), (.int .i64 (0))] 62))], [(ob, (.cells { toList := xs ++ zc stZero sp } 62))], (fun u => (.slice (some ⟨u.x, 0, none⟩) (i + 1) (i + 1 + u.y), [(u.x, .cells ⟨xs ++ [.int .i64 kd, .float .f64 v, .slice none 0 0, .int .i64 0] ++ zc stZero u.y⟩ 62)], []))⟩]) (fun ν0 => by kernel_rfl) (fun ν0 => by kernel_rfl) (fun ν0 => trivial) (fun ν0 => ⟨(fun s' F w g => c_stepTo w0 kd v s' _ w g), trivial⟩) (fun ν0 => ⟨(ho_index 73 75 4 (by kernel_rfl) (by kernel_rfl) st M sc i hi), (ho_row 75 (by kernel_rfl) 4 (by kernel_rfl) st (i * 4) sl 75 (0, 0) [.int .i64 kd, .float .f64 v, .slice none 0 0, .int .i64 0] rfl hrow), (ho_own stZero 4 48 (by kernel_rfl) (by kernel_rfl) rfl (by decide) ob i sp xs hxs _ 0 1 1 _ _ _ [.int .i64 kd, .float .f64 v, .slice none 0 0, .int .i64 0] rfl rfl (by simp [Value.oneCell']) (by omega) (by omega)), trivial⟩) ?_
  intro ν0 s0
  refine Goes.seg [48] 100000 [] (fr' := ⟨34, #[(.slice (some ⟨st, 0, none⟩) (M) (sc)), (r 1), (r 2), (.slice (some ⟨(ν0 7).x, 0, none⟩) (i + 1) ((i + 1 + ((ν0 7).y)))), (.int .i64 (IntKind.i64.wrap ((↑i : Int) + 1))), (.int .i64 ((↑i : Int))), (.slice (some ⟨st, 0, none⟩) (M) (sc)), (.int .i64 ((↑M : Int))), (.bool (decide ((↑i : Int) < (↑M : Int)))), (.int .i64 ((↑i : Int))), (.int .i64 (IntKind.i64.wrap ((↑i : Int) + 1))), (.slice (some ⟨ob, 0, none⟩) (i) ((i + sp))), (.slice (some ⟨st, 0, none⟩) (M) (sc)), (.int .i64 ((↑i : Int))), (.pointer (some ⟨st, ((((0 + i) + i) + i) + i), none⟩)), (.agg #[(.int .i64 (kd)), (.float .f64 (v)), (.slice none (0) (0)), (.int .i64 (0))]), (.agg #[(.int .i64 (kd)), (.float .f64 (v)), (.slice none (0) (0)), (.int .i64 (0))]), (.slice (some ⟨(ν0 6).n, 0, none⟩) (1) (1)), (.slice (some ⟨(ν0 7).x, 0, none⟩) (i + 1) ((i + 1 + ((ν0 7).y)))), (r 19)], [.inLoop (codeAt Tryz.prog 34 [1, 1, 0, 1, 0, 0]), .inBlock 0, .code (codeAt Tryz.prog 34 [1, 1, 1])], [], .run, .normal, none⟩) (cs' := []) (s' := s0) (L' := [(st, (.cells { toList := sl } 75)), ((ν0 7).x, (.cells { toList := xs ++ [Value.int IntKind.i64 kd, Value.float FloatKind.f64 v, Value.slice none 0 0, Value.int IntKind.i64 0] ++ zc stZero (ν0 7).y } 62)), ((ν0 6).n, (.cells #[(.int .i64 (kd)), (.float .f64 (v)), (.slice none (0) (0)), (.int .i64 (0))] 62))]) (ob := []) (by kernel_rfl) (by kernel_rfl) trivial ?_
  rw [wrap_succ hi (by omega)]
  refine Goes.pick [0, 1] rfl rfl ?_
  exact Goes.again _ _ rfl rfl rfl (ih (ν0 7).x (ν0 7).y (fun q => match q with | 5 => .int .i64 ((↑i : Int)) | 6 => .slice (some ⟨st, 0, none⟩) (M) (sc) | 7 => .int .i64 ((↑M : Int)) | 8 => .bool (decide ((↑i : Int) < (↑M : Int))) | 9 => .int .i64 ((↑i : Int)) | 10 => .int .i64 (((i + 1 : Nat) : Int)) | 11 => .slice (some ⟨ob, 0, none⟩) (i) ((i + sp)) | 12 => .slice (some ⟨st, 0, none⟩) (M) (sc) | 13 => .int .i64 ((↑i : Int)) | 14 => .pointer (some ⟨st, ((((0 + i) + i) + i) + i), none⟩) | 15 => .agg #[(.int .i64 (kd)), (.float .f64 (v)), (.slice none (0) (0)), (.int .i64 (0))] | 16 => .agg #[(.int .i64 (kd)), (.float .f64 (v)), (.slice none (0) (0)), (.int .i64 (0))] | 17 => .slice (some ⟨(ν0 6).n, 0, none⟩) (1) (1) | 18 => .slice (some ⟨(ν0 7).x, 0, none⟩) (i + 1) ((i + 1 + ((ν0 7).y))) | q => r q) _)

set_option maxRecDepth 100000 in
theorem sp_end (w0 : World) (st M sc ob sp : Nat) (sl xs : List Value) (i : Nat) (r : Nat → Value) (s : Nat) (hi : ¬ i < M) (F : List (Nat × Obj)) (cs0 : List Frame) (R : Ending → World → Prop)
    (hR : ∀ w', Good w0 s ([(st, .cells ⟨sl⟩ 75), (ob, .cells ⟨xs ++ zc stZero sp⟩ 62)] ++ F) w' → R (.returned (.slice (some ⟨ob, 0, none⟩) i (i + sp))) w') :
    Goes Tryz.prog w0 F cs0 (Ends Tryz.prog 34 R cs0) (spFr st M sc (.slice (some ⟨ob, 0, none⟩) i (i + sp)) i r) [] s [(st, .cells ⟨sl⟩ 75), (ob, .cells ⟨xs ++ zc stZero sp⟩ 62)] := by
  have hlt0 : decide ((i : Int) < (M : Int)) = false := decide_eq_false (by omega)
  show Goes Tryz.prog w0 F cs0 _ ⟨34, #[.slice (some ⟨st, 0, none⟩) M sc, r 1, r 2, .slice (some ⟨ob, 0, none⟩) i (i + sp), .int .i64 i, r 5, r 6, r 7, r 8, r 9, r 10, r 11, r 12, r 13, r 14, r 15, r 16, r 17, r 18, r 19], [.code (codeAt Tryz.prog 34 [1, 1, 0, 1, 0, 0]), .inLoop (codeAt Tryz.prog 34 [1, 1, 0, 1, 0, 0]), .inBlock 0, .code (codeAt Tryz.prog 34 [1, 1, 1])], [], .run, .normal, none⟩ [] s [(st, .cells ⟨sl⟩ 75), (ob, .cells ⟨xs ++ zc stZero sp⟩ 62)]
  refine Goes.last [48] 100000 [.br false] (v := (.slice (some ⟨ob, 0, none⟩) (i) ((i + sp)))) (s' := s) (L' := [(st, (.cells { toList := sl } 75)), (ob, (.cells { toList := xs ++ zc stZero sp } 62))]) (ob := [(.test (decide ((↑i : Int) < (↑M : Int))) false)]) (by kernel_rfl) (by kernel_rfl) (by repeat first | exact trivial | (refine And.intro (by first | assumption | rfl) ?_)) ?_
  exact hR

/-- The cells of steps with no labels at time 0. -/
def stRows (kd : Nat → Int) (v : Nat → Nat) : Nat → List Value
  | 0 => []
  | i + 1 => stRows kd v i ++ [.int .i64 (kd i), .float .f64 (v i), .slice none 0 0, .int .i64 0]

theorem stRows_length (kd : Nat → Int) (v : Nat → Nat) : ∀ i, (stRows kd v i).length = i * 4
  | 0 => rfl
  | i + 1 => by simp [stRows, stRows_length kd v i, Nat.add_mul]

theorem stRows_get (kd : Nat → Int) (v : Nat → Nat) : ∀ (M : Nat) (rest : List Value) (i : Nat), i < M → ∀ j u, ([.int .i64 (kd i), .float .f64 (v i), .slice none 0 0, .int .i64 0] : List Value)[j]? = some u → (stRows kd v M ++ rest)[i * 4 + j]? = some u
  | 0, _, i, hi, _, _, _ => by omega
  | M + 1, rest, i, hi, j, u, h => by
    simp only [stRows, List.append_assoc]
    by_cases e : i = M
    · subst e
      rw [List.getElem?_append_right (by rw [stRows_length]; omega), stRows_length, Nat.add_sub_cancel_left]
      have hj := (List.getElem?_eq_some_iff.1 h).1
      rw [List.getElem?_append_left hj]
      exact h
    · exact stRows_get kd v M _ i (by omega) j u h

/-- stepsTo: steps with no labels at time 0. -/
theorem c_stepsTo (w0 : World) (st M sc : Nat) (kd : Nat → Int) (v : Nat → Nat) (rest : List Value) (hM : M ≤ 1099511627776) (h1 : 1 ≤ M) (s : Nat) (F : List (Nat × Obj)) (w : World) (g : Good w0 s ([(st, .cells ⟨stRows kd v M ++ rest⟩ 75)] ++ F) w) :
    Calls Tryz.prog 34 #[.slice (some ⟨st, 0, none⟩) M sc] w fun e w' => ∃ v' : PU, ∃ s', v'.n = s ∧ e = .returned (.slice (some ⟨v'.x, 0, none⟩) M (M + v'.y)) ∧
      Good w0 s' ([(v'.x, .cells ⟨stRows kd v M ++ zc stZero v'.y⟩ 62)] ++ F) w' := by
  refine Goes.calls (L := [(st, .cells ⟨stRows kd v M ++ rest⟩ 75)]) (F := F) g fun cs0 => ?_
  refine Goes.seg [48] 100000 [] (fr' := ⟨34, #[(.slice (some ⟨st, 0, none⟩) (M) (sc)), u, (.slice none (0) (0)), (.slice none (0) (0)), (.int .i64 (0)), u, u, u, u, u, u, u, u, u, u, u, u, u, u, u], [.code (codeAt Tryz.prog 34 [1, 1, 0, 1, 0]), .inBlock 0, .code (codeAt Tryz.prog 34 [1, 1, 1])], [], .run, .normal, none⟩) (cs' := []) (s' := s) (L' := [(st, (.cells { toList := stRows kd v M ++ rest } 75))]) (ob := []) (by kernel_rfl) (by kernel_rfl) trivial ?_
  refine Goes.first _ _ rfl rfl rfl ?_
  have key : ∀ (k i ob sp : Nat) (r : Nat → Value) (s1 : Nat), M - i = k → 1 ≤ i → i ≤ M →
      Goes Tryz.prog w0 F cs0 (Ends Tryz.prog 34 (fun e w' => ∃ v' : PU, ∃ s', v'.n = s ∧ e = .returned (.slice (some ⟨v'.x, 0, none⟩) M (M + v'.y)) ∧ Good w0 s' ([(v'.x, .cells ⟨stRows kd v M ++ zc stZero v'.y⟩ 62)] ++ F) w') cs0)
        (spFr st M sc (.slice (some ⟨ob, 0, none⟩) i (i + sp)) i r) [] s1 [(st, .cells ⟨stRows kd v M ++ rest⟩ 75), (ob, .cells ⟨stRows kd v i ++ zc stZero sp⟩ 62)] := by
    intro k
    induction k using Nat.strongRecOn with
    | _ k ih =>
      intro i ob sp r s1 hk h1i hiM
      by_cases hi : i < M
      · refine sp_own w0 st M sc (v i) (kd i) _ i r s1 hM hi ob sp (stRows kd v i) (stRows_length kd v i) (fun j u h => stRows_get kd v M rest i hi j u h) F cs0 _ fun ob' sp' r' s' => ?_
        exact ih (M - (i + 1)) (by omega) (i + 1) ob' sp' r' s' rfl (by omega) hi
      · have e : i = M := by omega
        subst e
        refine sp_end w0 st i sc ob sp _ _ i r s1 hi F cs0 _ fun w' g' => ?_
        refine ⟨⟨s, ob, sp, undef, [], fun _ => 0⟩, s1, rfl, rfl, ?_⟩
        have g2 := g'.picked [1] rfl rfl
        exact g2
  refine sp_nil w0 st M sc (v 0) (kd 0) _ 0 (fun q => match q with | 2 => .slice none 0 0 | _ => u) s hM (by omega) (fun j u h => stRows_get kd v M rest 0 (by omega) j u h) F cs0 _ fun ob' sp' r' s' => ?_
  exact key (M - 1) 1 ob' sp' r' s' rfl (Nat.le_refl 1) h1

end Go.Sx

namespace Go.Sx
open Go Go.Proofs Go.Fl
open Go.Lib (strCells)

section
variable {P : Program} {w0 : World}

theorem ho_index_old (t e : TypeId) (sz : Nat) (ht : P.underlying t = some (.slice e)) (hinfo : (P.info? e).map (fun i => i.size) = some sz) (a : Addr) (n c i : Nat) (hi : i < n) :
    HO.holds P w0 PU.n ⟨indexSem t (.slice (some a) n c) (.int .i64 i), [], [], fun _ => (.pointer (some (a.add (i * sz))), [], [])⟩ := by
  cases h : P.info? e with
  | none => rw [h] at hinfo; simp at hinfo
  | some inf =>
    rw [h] at hinfo
    simp only [Option.map_some, Option.some.injEq] at hinfo
    intro s F w g
    simp only [List.nil_append] at g
    refine ⟨⟨s, 0, 0, undef, [], fun _ => 0⟩, s, w, rfl, ?_, ?_⟩
    · have hlt : (0 : Int) ≤ (i : Int) ∧ (i : Int) < (n : Int) := by omega
      show (indexSem t (.slice (some a) n c) (.int .i64 i)).run P w = _
      simp [indexSem, Instr.indexAt, asIntOf, run_underlying ht, sizeOf, typeInfo, h, hinfo, hlt]
      intro hc
      omega
    · simp only [List.nil_append]
      exact g

theorem ho_append_none {t ty e : TypeId} (ht : P.underlying t = some (.slice e)) (hsz : ((P.info? e).map fun i => i.size).isSome = true) (b : Nat) (cs : Array Value) (te : TypeId) :
    HO.holds P w0 PU.n ⟨appendSem t ty (.slice (some ⟨b, 0, none⟩) 0 0) (.slice none 0 0), [], [(b, .cells cs te)], fun u => (.slice (some ⟨u.x, 0, none⟩) 0 0, [(u.x, .cells cs te)], [])⟩ := by
  cases hi : P.info? e with
  | none => rw [hi] at hsz; simp at hsz
  | some i =>
    intro s F w g
    refine ⟨⟨s, b, 0, undef, [], fun _ => 0⟩, s, w, rfl, ?_, by simpa using g⟩
    have h : (Builtin.append_ #[t, t] ty #[.slice (some ⟨b, 0, none⟩) 0 0, .slice none 0 0]).run P w = .ok (.slice (some ⟨b, 0, none⟩) 0 0) w := by
      simp [Builtin.append_, run_underlying ht, sizeOf, typeInfo, hi, Builtin.lenOf, Builtin.firstCells, storeCells]
    exact appendSem_run h
end

end Go.Sx
