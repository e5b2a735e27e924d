/- The walks of the laws over one box or two: each answers true. -/
import Derived.Test.YtenokcfpmfoekaaSpec
set_option linter.unusedSimpArgs false
set_option linter.unusedVariables false
namespace Go.Proofs.Ytenokcfpmfoekaa
open Go.RowKit Go.Bx

/-- Fits sixteen bits. -/
def I16 (a : Int) : Prop := -32768 ≤ a ∧ a ≤ 32767

theorem onedge_walk (a b c d a' b' c' d' : Int) (ha : I16 a) (hb : I16 b) (hc : I16 c) (hd : I16 d) (ha' : I16 a') (hb' : I16 b') (hc' : I16 c') (hd' : I16 d') (w : World) :
    Calls Try.prog 3 #[.int .i16 a, .int .i16 b, .int .i16 c, .int .i16 d, .int .i16 a', .int .i16 b', .int .i16 c', .int .i16 d'] w fun e w' => e = .returned (.bool true) ∧ Mix.Ex w w' := by
  go_enter Try.func3, Try.ntmps3
  go_wp2_with fail
  refine (BoxOf_c _ a b c d ha hb hc hd).mono ?_
  rintro e w1 ⟨rfl, x1, rfl⟩
  generalize R.of4 a b c d = r
  go_wp2_with fail
  refine (BoxOf_c _ a' b' c' d' ha' hb' hc' hd').mono ?_
  rintro e w2 ⟨rfl, x2, rfl⟩
  generalize R.of4 a' b' c' d' = s
  go_wp2_with fail
  (refine Mix.wp_region_new 2 [37] (by kernel_rfl) (by kernel_rfl) ?_; simp only [List.take_succ_cons, List.take_zero, List.drop_succ_cons, List.drop_zero])
  (repeat (go_big_quiet_step (fail))); refine wpQuiet_nil ?_
  (refine Mix.wpTl_dr (fun n K hK => ?_); go_simp)
  refine (implOnedge_c _ r s).mono ?_
  rintro e w3 ⟨rfl, hx3⟩
  have hx3 := (Mix.Ex.of_dr ⟨n, rfl⟩).trans hx3
  refine ⟨_, rfl, _, Mix.Dr.refl _, hx3, hK _ _ hx3 ?_⟩
  (clear hK K; simp only [Act.put, List.setIfInBounds_toArray, List.set_cons_zero, List.set_cons_succ, List.take_succ_cons, List.take_zero, List.drop_succ_cons, List.drop_zero])
  repeat (go_big_quiet_step (fail))
  cases g1 : decide (s.x0 < r.x0)
  case false =>
    repeat (go_big_quiet_step (fail))
    refine wpQuiet_nil ?_; intro nq
    go_wp2_with fail
    go_ret
    exact ⟨ret_bool (by simp [R.onedge, g1]), ((((((Mix.Ex.refl _).ext _).ext _).alloc _).alloc _).trans hx3).drewN _⟩
  repeat (go_big_quiet_step (fail))
  cases g2 : decide (s.y0 < r.y0)
  case false =>
    repeat (go_big_quiet_step (fail))
    refine wpQuiet_nil ?_; intro nq
    go_wp2_with fail
    go_ret
    exact ⟨ret_bool (by simp [R.onedge, g1, g2]), ((((((Mix.Ex.refl _).ext _).ext _).alloc _).alloc _).trans hx3).drewN _⟩
  repeat (go_big_quiet_step (fail))
  cases g3 : decide (r.x1 < s.x1)
  case false =>
    repeat (go_big_quiet_step (fail))
    refine wpQuiet_nil ?_; intro nq
    go_wp2_with fail
    go_ret
    exact ⟨ret_bool (by simp [R.onedge, g1, g2, g3]), ((((((Mix.Ex.refl _).ext _).ext _).alloc _).alloc _).trans hx3).drewN _⟩
  repeat (go_big_quiet_step (fail))
  refine wpQuiet_nil ?_; intro nq
  go_wp2_with fail
  go_ret
  exact ⟨ret_bool (by simp [R.onedge, g1, g2, g3]), ((((((Mix.Ex.refl _).ext _).ext _).alloc _).alloc _).trans hx3).drewN _⟩

end Go.Proofs.Ytenokcfpmfoekaa
