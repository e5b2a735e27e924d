/- The reference's functions over two boxes. -/
import Derived.Test.YtenokcfpmfoekaaThin
set_option linter.unusedSimpArgs false
set_option linter.unusedVariables false
namespace Go.Proofs.Ytenokcfpmfoekaa
open Go.RowKit Go.Bx

@[go_sem high] theorem run_max_int3 (P : Program) (w : World) (ts : Array TypeId) (t : TypeId) (k k' k'' : IntKind) (x y z : Int) :
    (Builtin.max_ ts t #[.int k x, .int k' y, .int k'' z]).run P w = .ok (.int k (max (max x y) z)) w := by
  have e : ∀ (i j : IntKind) (a b : Int) (w : World), (Builtin.max2 (.int i a) (.int j b)).run P w = .ok (.int i (max a b)) w := fun i j a b w => by
    simp only [Builtin.max2]
    by_cases h : b > a
    · rw [show max a b = b by omega]; simp [h]
    · rw [show max a b = a by omega]; simp [h]
  simp [Builtin.max_, e]

theorem gap_eq {a b c d : Int} (h : a ≤ b) (k : c ≤ d) : max (max 0 (a - d)) (c - b) = R.gap a b c d := by
  simp only [R.gap]; omega

set_option maxRecDepth 100000 in
theorem specDist_c (w : World) (r s : R) (hr : r.small) (hs : s.small) (kr : r.ok) (ks : s.ok) :
    Calls Try.prog 22 #[.agg #[.int .i64 r.x0, .int .i64 r.y0, .int .i64 r.x1, .int .i64 r.y1], .agg #[.int .i64 s.x0, .int .i64 s.y0, .int .i64 s.x1, .int .i64 s.y1]] w fun e w' => e = .returned (.int .i64 (r.boxDist s)) ∧ Mix.Ex w w' := by
  obtain ⟨x0, y0, x1, y1⟩ := r
  obtain ⟨u0, v0, u1, v1⟩ := s
  obtain ⟨⟨a1, a2⟩, ⟨a3, a4⟩, ⟨a5, a6⟩, ⟨a7, a8⟩⟩ := hr
  obtain ⟨⟨b1, b2⟩, ⟨b3, b4⟩, ⟨b5, b6⟩, ⟨b7, b8⟩⟩ := hs
  obtain ⟨c1, c2⟩ := kr
  obtain ⟨d1, d2⟩ := ks
  dsimp only at *
  have e1 := gap_eq c1 d1
  have e2 := gap_eq c2 d2
  obtain ⟨g1, g2⟩ : 0 ≤ R.gap x0 x1 u0 u1 ∧ R.gap x0 x1 u0 u1 ≤ 65535 := by simp only [R.gap]; omega
  obtain ⟨g3, g4⟩ : 0 ≤ R.gap y0 y1 v0 v1 ∧ R.gap y0 y1 v0 v1 ≤ 65535 := by simp only [R.gap]; omega
  obtain ⟨m1, m2⟩ := mul_bound (a := R.gap x0 x1 u0 u1) (b := R.gap x0 x1 u0 u1) (by omega) (by omega)
  obtain ⟨m3, m4⟩ := mul_bound (a := R.gap y0 y1 v0 v1) (b := R.gap y0 y1 v0 v1) (by omega) (by omega)
  go_enter Try.func22, Try.ntmps22
  go_wp2_with fail
  refine wp_loop_rounds 3 ?_
  rw [rounds_succ]
  go_wp2_with fail
  (refine Mix.wp_region_dr (by kernel_rfl) (by kernel_rfl) ?_; (repeat (go_big_quiet_step (fail))); refine wpQuiet_nil ?_; intro nq)
  go_wp2_with fail
  rw [rounds_succ]
  go_wp2_with fail
  (refine Mix.wp_region_dr (by kernel_rfl) (by kernel_rfl) ?_; (repeat (go_big_quiet_step (fail))); refine wpQuiet_nil ?_; intro nq)
  go_wp2_with fail
  rw [rounds_succ]
  go_wp2_with fail
  go_ret
  refine ⟨ret_int (by simp [R.boxDist]), ?_⟩
  repeat (first | exact Mix.Ex.refl _ | apply Mix.Ex.drewN | apply Mix.Ex.alloc)

theorem ret_bool {a b : Bool} (h : a = b) : Ending.returned (.bool a) = .returned (.bool b) := by rw [h]

theorem specMeet_c (w : World) (r s : R) :
    Calls Try.prog 25 #[.agg #[.int .i64 r.x0, .int .i64 r.y0, .int .i64 r.x1, .int .i64 r.y1], .agg #[.int .i64 s.x0, .int .i64 s.y0, .int .i64 s.x1, .int .i64 s.y1]] w fun e w' => e = .returned (.bool (r.intersects s)) ∧ Mix.Ex w w' := by
  obtain ⟨x0, y0, x1, y1⟩ := r
  obtain ⟨u0, v0, u1, v1⟩ := s
  dsimp only
  go_enter Try.func25, Try.ntmps25
  go_wp2_with fail
  all_goals
    go_ret
    refine ⟨ret_bool ?_, ((Mix.Ex.refl _).alloc _).alloc _⟩
    dsimp only [R.intersects]
    rw [Bool.eq_iff_iff]
    simp
    omega
end Go.Proofs.Ytenokcfpmfoekaa
