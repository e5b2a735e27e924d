/- The thin functions over one box or two. -/
import Derived.Test.YtenokcfpmfoekaaExpand
set_option linter.unusedSimpArgs false
set_option linter.unusedVariables false
namespace Go.Proofs.Ytenokcfpmfoekaa
open Go.RowKit Go.Bx

theorem boxOf_c (w : World) (b o : Nat) (r : R) (hr : RectAt w b o r) :
    Calls Try.prog 51 #[.pointer (some ⟨b, o, none⟩)] w fun e w' => e = .returned (.agg #[.int .i64 r.x0, .int .i64 r.y0, .int .i64 r.x1, .int .i64 r.y1]) ∧ Mix.Ex w w' := by
  obtain ⟨x0, y0, x1, y1⟩ := r
  obtain ⟨h0, h1, h2, h3⟩ := hr
  dsimp only at *
  have hb := World.block_lt_of_cell? w _ h0
  dsimp only at hb
  go_enter Try.func51, Try.ntmps51
  go_wp2
  (refine Mix.wp_region_drw 9 [0] (by kernel_rfl) (by kernel_rfl) ?_; simp only [List.take_succ_cons, List.take_zero, List.drop_succ_cons, List.drop_zero]; (repeat (go_big_quiet_step (fail))); refine wpQuiet_nil ?_)
  (refine Mix.wpTl_dr (fun n K hK => ?_); go_simp; refine ⟨_, ⟨_, rfl⟩, hK _ _ trivial ?_⟩; clear hK K; simp only [Act.put, List.take_succ_cons, List.take_zero, List.drop_succ_cons, List.drop_zero])
  (refine wpQuiet_nil ?_; intro nq)
  go_wp2
  refine bodyPost_ret (v := .agg #[.int .i64 x0, .int .i64 y0, .int .i64 x1, .int .i64 y1]) (by simp [results, Try.results51, go_sem]) rfl ⟨rfl, ?_⟩
  exact ((Mix.Ex.refl _).alloc _).drewN _

theorem ZZContains_c (w : World) (r s : R) :
    Calls Try.prog 39 #[.agg #[.int .i64 r.x0, .int .i64 r.y0, .int .i64 r.x1, .int .i64 r.y1], .agg #[.int .i64 s.x0, .int .i64 s.y0, .int .i64 s.x1, .int .i64 s.y1]] w fun e w' => e = .returned (.bool (r.contains s)) ∧ Mix.Ex w w' := by
  go_enter Try.func39, Try.ntmps39
  go_wp2_with fail
  (refine Mix.wp_region_new 1 [1, 0, 1] (by kernel_rfl) (by kernel_rfl) ?_; simp only [List.take_succ_cons, List.take_zero, List.drop_succ_cons, List.drop_zero])
  (repeat (go_big_quiet_step (fail))); refine wpQuiet_nil ?_
  (refine Mix.wpTl_dr (fun n K hK => ?_); go_simp)
  refine (boxRect_c _ r).mono ?_
  rintro e w1 ⟨b1, rfl, hb1, hr1, ho1, hx1⟩
  have hx1 := (Mix.Ex.of_dr ⟨n, rfl⟩).trans hx1
  refine ⟨_, rfl, w1, Mix.Dr.refl _, hx1, hK _ _ hx1 ?_⟩
  (clear hK K; simp only [Act.put, List.setIfInBounds_toArray, List.set_cons_zero, List.set_cons_succ, List.take_succ_cons, List.take_zero, List.drop_succ_cons, List.drop_zero])
  (repeat (go_big_quiet_step (fail))); refine wpQuiet_nil ?_
  (refine Mix.wpTl_dr (fun n K hK => ?_); go_simp)
  refine (boxRect_c _ s).mono ?_
  rintro e w2 ⟨b2, rfl, hb2, hr2, ho2, hx2⟩
  have hx2 := (Mix.Ex.of_dr ⟨n, rfl⟩).trans hx2
  have hr1 := hr1.of_ex hx2
  have hx2 := hx1.trans hx2
  refine ⟨_, rfl, w2, Mix.Dr.refl _, hx2, hK _ _ hx2 ?_⟩
  (clear hK K; simp only [Act.put, List.setIfInBounds_toArray, List.set_cons_zero, List.set_cons_succ, List.take_succ_cons, List.take_zero, List.drop_succ_cons, List.drop_zero])
  (repeat (go_big_quiet_step (fail))); refine wpQuiet_nil ?_
  (refine Mix.wpTl_dr (fun n K hK => ?_); go_simp)
  refine (contains_c _ _ _ _ _ r s (hr1.of_dr _) (hr2.of_dr _)).mono ?_
  rintro e w3 ⟨rfl, n3, rfl⟩
  have hx3 := (hx2.drewN n).drewN n3
  refine ⟨_, rfl, _, Mix.Dr.refl _, hx3, hK _ _ hx3 ?_⟩
  (clear hK K; simp only [Act.put, List.setIfInBounds_toArray, List.set_cons_zero, List.set_cons_succ, List.take_succ_cons, List.take_zero, List.drop_succ_cons, List.drop_zero])
  (repeat (go_big_quiet_step (fail))); refine wpQuiet_nil ?_
  intro nq
  go_wp2_with fail
  go_ret
  exact ⟨rfl, (((Mix.Ex.refl _).alloc _).alloc _).trans (hx3.drewN nq)⟩

theorem ZZIntersects_c (w : World) (r s : R) :
    Calls Try.prog 40 #[.agg #[.int .i64 r.x0, .int .i64 r.y0, .int .i64 r.x1, .int .i64 r.y1], .agg #[.int .i64 s.x0, .int .i64 s.y0, .int .i64 s.x1, .int .i64 s.y1]] w fun e w' => e = .returned (.bool (r.intersects s)) ∧ Mix.Ex w w' := by
  go_enter Try.func40, Try.ntmps40
  go_wp2_with fail
  (refine Mix.wp_region_new 1 [1, 0, 1] (by kernel_rfl) (by kernel_rfl) ?_; simp only [List.take_succ_cons, List.take_zero, List.drop_succ_cons, List.drop_zero])
  (repeat (go_big_quiet_step (fail))); refine wpQuiet_nil ?_
  (refine Mix.wpTl_dr (fun n K hK => ?_); go_simp)
  refine (boxRect_c _ r).mono ?_
  rintro e w1 ⟨b1, rfl, hb1, hr1, ho1, hx1⟩
  have hx1 := (Mix.Ex.of_dr ⟨n, rfl⟩).trans hx1
  refine ⟨_, rfl, w1, Mix.Dr.refl _, hx1, hK _ _ hx1 ?_⟩
  (clear hK K; simp only [Act.put, List.setIfInBounds_toArray, List.set_cons_zero, List.set_cons_succ, List.take_succ_cons, List.take_zero, List.drop_succ_cons, List.drop_zero])
  (repeat (go_big_quiet_step (fail))); refine wpQuiet_nil ?_
  (refine Mix.wpTl_dr (fun n K hK => ?_); go_simp)
  refine (boxRect_c _ s).mono ?_
  rintro e w2 ⟨b2, rfl, hb2, hr2, ho2, hx2⟩
  have hx2 := (Mix.Ex.of_dr ⟨n, rfl⟩).trans hx2
  have hr1 := hr1.of_ex hx2
  have hx2 := hx1.trans hx2
  refine ⟨_, rfl, w2, Mix.Dr.refl _, hx2, hK _ _ hx2 ?_⟩
  (clear hK K; simp only [Act.put, List.setIfInBounds_toArray, List.set_cons_zero, List.set_cons_succ, List.take_succ_cons, List.take_zero, List.drop_succ_cons, List.drop_zero])
  (repeat (go_big_quiet_step (fail))); refine wpQuiet_nil ?_
  (refine Mix.wpTl_dr (fun n K hK => ?_); go_simp)
  refine (intersects_c _ _ _ _ _ r s (hr1.of_dr _) (hr2.of_dr _)).mono ?_
  rintro e w3 ⟨rfl, n3, rfl⟩
  have hx3 := (hx2.drewN n).drewN n3
  refine ⟨_, rfl, _, Mix.Dr.refl _, hx3, hK _ _ hx3 ?_⟩
  (clear hK K; simp only [Act.put, List.setIfInBounds_toArray, List.set_cons_zero, List.set_cons_succ, List.take_succ_cons, List.take_zero, List.drop_succ_cons, List.drop_zero])
  (repeat (go_big_quiet_step (fail))); refine wpQuiet_nil ?_
  intro nq
  go_wp2_with fail
  go_ret
  exact ⟨rfl, (((Mix.Ex.refl _).alloc _).alloc _).trans (hx3.drewN nq)⟩

theorem ZZEquals_c (w : World) (r s : R) :
    Calls Try.prog 41 #[.agg #[.int .i64 r.x0, .int .i64 r.y0, .int .i64 r.x1, .int .i64 r.y1], .agg #[.int .i64 s.x0, .int .i64 s.y0, .int .i64 s.x1, .int .i64 s.y1]] w fun e w' => e = .returned (.bool (r.equals s)) ∧ Mix.Ex w w' := by
  go_enter Try.func41, Try.ntmps41
  go_wp2_with fail
  (refine Mix.wp_region_new 1 [1, 0, 1] (by kernel_rfl) (by kernel_rfl) ?_; simp only [List.take_succ_cons, List.take_zero, List.drop_succ_cons, List.drop_zero])
  (repeat (go_big_quiet_step (fail))); refine wpQuiet_nil ?_
  (refine Mix.wpTl_dr (fun n K hK => ?_); go_simp)
  refine (boxRect_c _ r).mono ?_
  rintro e w1 ⟨b1, rfl, hb1, hr1, ho1, hx1⟩
  have hx1 := (Mix.Ex.of_dr ⟨n, rfl⟩).trans hx1
  refine ⟨_, rfl, w1, Mix.Dr.refl _, hx1, hK _ _ hx1 ?_⟩
  (clear hK K; simp only [Act.put, List.setIfInBounds_toArray, List.set_cons_zero, List.set_cons_succ, List.take_succ_cons, List.take_zero, List.drop_succ_cons, List.drop_zero])
  (repeat (go_big_quiet_step (fail))); refine wpQuiet_nil ?_
  (refine Mix.wpTl_dr (fun n K hK => ?_); go_simp)
  refine (boxRect_c _ s).mono ?_
  rintro e w2 ⟨b2, rfl, hb2, hr2, ho2, hx2⟩
  have hx2 := (Mix.Ex.of_dr ⟨n, rfl⟩).trans hx2
  have hr1 := hr1.of_ex hx2
  have hx2 := hx1.trans hx2
  refine ⟨_, rfl, w2, Mix.Dr.refl _, hx2, hK _ _ hx2 ?_⟩
  (clear hK K; simp only [Act.put, List.setIfInBounds_toArray, List.set_cons_zero, List.set_cons_succ, List.take_succ_cons, List.take_zero, List.drop_succ_cons, List.drop_zero])
  (repeat (go_big_quiet_step (fail))); refine wpQuiet_nil ?_
  (refine Mix.wpTl_dr (fun n K hK => ?_); go_simp)
  refine (equals_c _ _ _ _ _ r s (hr1.of_dr _) (hr2.of_dr _)).mono ?_
  rintro e w3 ⟨rfl, n3, rfl⟩
  have hx3 := (hx2.drewN n).drewN n3
  refine ⟨_, rfl, _, Mix.Dr.refl _, hx3, hK _ _ hx3 ?_⟩
  (clear hK K; simp only [Act.put, List.setIfInBounds_toArray, List.set_cons_zero, List.set_cons_succ, List.take_succ_cons, List.take_zero, List.drop_succ_cons, List.drop_zero])
  (repeat (go_big_quiet_step (fail))); refine wpQuiet_nil ?_
  intro nq
  go_wp2_with fail
  go_ret
  exact ⟨rfl, (((Mix.Ex.refl _).alloc _).alloc _).trans (hx3.drewN nq)⟩

theorem ZZOnedge_c (w : World) (r s : R) :
    Calls Try.prog 33 #[.agg #[.int .i64 r.x0, .int .i64 r.y0, .int .i64 r.x1, .int .i64 r.y1], .agg #[.int .i64 s.x0, .int .i64 s.y0, .int .i64 s.x1, .int .i64 s.y1]] w fun e w' => e = .returned (.bool (r.onedge s)) ∧ Mix.Ex w w' := by
  go_enter Try.func33, Try.ntmps33
  go_wp2_with fail
  (refine Mix.wp_region_new 1 [1, 0, 1] (by kernel_rfl) (by kernel_rfl) ?_; simp only [List.take_succ_cons, List.take_zero, List.drop_succ_cons, List.drop_zero])
  (repeat (go_big_quiet_step (fail))); refine wpQuiet_nil ?_
  (refine Mix.wpTl_dr (fun n K hK => ?_); go_simp)
  refine (boxRect_c _ r).mono ?_
  rintro e w1 ⟨b1, rfl, hb1, hr1, ho1, hx1⟩
  have hx1 := (Mix.Ex.of_dr ⟨n, rfl⟩).trans hx1
  refine ⟨_, rfl, w1, Mix.Dr.refl _, hx1, hK _ _ hx1 ?_⟩
  (clear hK K; simp only [Act.put, List.setIfInBounds_toArray, List.set_cons_zero, List.set_cons_succ, List.take_succ_cons, List.take_zero, List.drop_succ_cons, List.drop_zero])
  (repeat (go_big_quiet_step (fail))); refine wpQuiet_nil ?_
  (refine Mix.wpTl_dr (fun n K hK => ?_); go_simp)
  refine (boxRect_c _ s).mono ?_
  rintro e w2 ⟨b2, rfl, hb2, hr2, ho2, hx2⟩
  have hx2 := (Mix.Ex.of_dr ⟨n, rfl⟩).trans hx2
  have hr1 := hr1.of_ex hx2
  have hx2 := hx1.trans hx2
  refine ⟨_, rfl, w2, Mix.Dr.refl _, hx2, hK _ _ hx2 ?_⟩
  (clear hK K; simp only [Act.put, List.setIfInBounds_toArray, List.set_cons_zero, List.set_cons_succ, List.take_succ_cons, List.take_zero, List.drop_succ_cons, List.drop_zero])
  (repeat (go_big_quiet_step (fail))); refine wpQuiet_nil ?_
  (refine Mix.wpTl_dr (fun n K hK => ?_); go_simp)
  refine (onedge_c _ _ _ _ _ r s (hr1.of_dr _) (hr2.of_dr _)).mono ?_
  rintro e w3 ⟨rfl, n3, rfl⟩
  have hx3 := (hx2.drewN n).drewN n3
  refine ⟨_, rfl, _, Mix.Dr.refl _, hx3, hK _ _ hx3 ?_⟩
  (clear hK K; simp only [Act.put, List.setIfInBounds_toArray, List.set_cons_zero, List.set_cons_succ, List.take_succ_cons, List.take_zero, List.drop_succ_cons, List.drop_zero])
  (repeat (go_big_quiet_step (fail))); refine wpQuiet_nil ?_
  intro nq
  go_wp2_with fail
  go_ret
  exact ⟨rfl, (((Mix.Ex.refl _).alloc _).alloc _).trans (hx3.drewN nq)⟩

theorem ZZUnionedArea_c (w : World) (r s : R) (hr : r.small) (hs : s.small) :
    Calls Try.prog 37 #[.agg #[.int .i64 r.x0, .int .i64 r.y0, .int .i64 r.x1, .int .i64 r.y1], .agg #[.int .i64 s.x0, .int .i64 s.y0, .int .i64 s.x1, .int .i64 s.y1]] w fun e w' => e = .returned (.int .i64 (r.unionedArea s)) ∧ Mix.Ex w w' := by
  go_enter Try.func37, Try.ntmps37
  go_wp2_with fail
  (refine Mix.wp_region_new 1 [1, 0, 1] (by kernel_rfl) (by kernel_rfl) ?_; simp only [List.take_succ_cons, List.take_zero, List.drop_succ_cons, List.drop_zero])
  (repeat (go_big_quiet_step (fail))); refine wpQuiet_nil ?_
  (refine Mix.wpTl_dr (fun n K hK => ?_); go_simp)
  refine (boxRect_c _ r).mono ?_
  rintro e w1 ⟨b1, rfl, hb1, hr1, ho1, hx1⟩
  have hx1 := (Mix.Ex.of_dr ⟨n, rfl⟩).trans hx1
  refine ⟨_, rfl, w1, Mix.Dr.refl _, hx1, hK _ _ hx1 ?_⟩
  (clear hK K; simp only [Act.put, List.setIfInBounds_toArray, List.set_cons_zero, List.set_cons_succ, List.take_succ_cons, List.take_zero, List.drop_succ_cons, List.drop_zero])
  (repeat (go_big_quiet_step (fail))); refine wpQuiet_nil ?_
  (refine Mix.wpTl_dr (fun n K hK => ?_); go_simp)
  refine (boxRect_c _ s).mono ?_
  rintro e w2 ⟨b2, rfl, hb2, hr2, ho2, hx2⟩
  have hx2 := (Mix.Ex.of_dr ⟨n, rfl⟩).trans hx2
  have hr1 := hr1.of_ex hx2
  have hx2 := hx1.trans hx2
  refine ⟨_, rfl, w2, Mix.Dr.refl _, hx2, hK _ _ hx2 ?_⟩
  (clear hK K; simp only [Act.put, List.setIfInBounds_toArray, List.set_cons_zero, List.set_cons_succ, List.take_succ_cons, List.take_zero, List.drop_succ_cons, List.drop_zero])
  (repeat (go_big_quiet_step (fail))); refine wpQuiet_nil ?_
  (refine Mix.wpTl_dr (fun n K hK => ?_); go_simp)
  refine (unionedArea_c _ _ _ _ _ r s (hr1.of_dr _) (hr2.of_dr _) hr hs).mono ?_
  rintro e w3 ⟨rfl, n3, rfl⟩
  have hx3 := (hx2.drewN n).drewN n3
  refine ⟨_, rfl, _, Mix.Dr.refl _, hx3, hK _ _ hx3 ?_⟩
  (clear hK K; simp only [Act.put, List.setIfInBounds_toArray, List.set_cons_zero, List.set_cons_succ, List.take_succ_cons, List.take_zero, List.drop_succ_cons, List.drop_zero])
  (repeat (go_big_quiet_step (fail))); refine wpQuiet_nil ?_
  intro nq
  go_wp2_with fail
  go_ret
  exact ⟨rfl, (((Mix.Ex.refl _).alloc _).alloc _).trans (hx3.drewN nq)⟩

theorem ZZBoxDist_c (w : World) (r s : R) (hr : r.small) (hs : s.small) :
    Calls Try.prog 38 #[.agg #[.int .i64 r.x0, .int .i64 r.y0, .int .i64 r.x1, .int .i64 r.y1], .agg #[.int .i64 s.x0, .int .i64 s.y0, .int .i64 s.x1, .int .i64 s.y1]] w fun e w' => e = .returned (.int .i64 (r.boxDist s)) ∧ Mix.Ex w w' := by
  go_enter Try.func38, Try.ntmps38
  go_wp2_with fail
  (refine Mix.wp_region_new 1 [1, 0, 1] (by kernel_rfl) (by kernel_rfl) ?_; simp only [List.take_succ_cons, List.take_zero, List.drop_succ_cons, List.drop_zero])
  (repeat (go_big_quiet_step (fail))); refine wpQuiet_nil ?_
  (refine Mix.wpTl_dr (fun n K hK => ?_); go_simp)
  refine (boxRect_c _ r).mono ?_
  rintro e w1 ⟨b1, rfl, hb1, hr1, ho1, hx1⟩
  have hx1 := (Mix.Ex.of_dr ⟨n, rfl⟩).trans hx1
  refine ⟨_, rfl, w1, Mix.Dr.refl _, hx1, hK _ _ hx1 ?_⟩
  (clear hK K; simp only [Act.put, List.setIfInBounds_toArray, List.set_cons_zero, List.set_cons_succ, List.take_succ_cons, List.take_zero, List.drop_succ_cons, List.drop_zero])
  (repeat (go_big_quiet_step (fail))); refine wpQuiet_nil ?_
  (refine Mix.wpTl_dr (fun n K hK => ?_); go_simp)
  refine (boxRect_c _ s).mono ?_
  rintro e w2 ⟨b2, rfl, hb2, hr2, ho2, hx2⟩
  have hx2 := (Mix.Ex.of_dr ⟨n, rfl⟩).trans hx2
  have hr1 := hr1.of_ex hx2
  have hx2 := hx1.trans hx2
  refine ⟨_, rfl, w2, Mix.Dr.refl _, hx2, hK _ _ hx2 ?_⟩
  (clear hK K; simp only [Act.put, List.setIfInBounds_toArray, List.set_cons_zero, List.set_cons_succ, List.take_succ_cons, List.take_zero, List.drop_succ_cons, List.drop_zero])
  (repeat (go_big_quiet_step (fail))); refine wpQuiet_nil ?_
  (refine Mix.wpTl_dr (fun n K hK => ?_); go_simp)
  refine (boxDist_c _ _ _ _ _ r s (hr1.of_dr _) (hr2.of_dr _) hr hs).mono ?_
  rintro e w3 ⟨rfl, n3, rfl⟩
  have hx3 := (hx2.drewN n).drewN n3
  refine ⟨_, rfl, _, Mix.Dr.refl _, hx3, hK _ _ hx3 ?_⟩
  (clear hK K; simp only [Act.put, List.setIfInBounds_toArray, List.set_cons_zero, List.set_cons_succ, List.take_succ_cons, List.take_zero, List.drop_succ_cons, List.drop_zero])
  (repeat (go_big_quiet_step (fail))); refine wpQuiet_nil ?_
  intro nq
  go_wp2_with fail
  go_ret
  exact ⟨rfl, (((Mix.Ex.refl _).alloc _).alloc _).trans (hx3.drewN nq)⟩

theorem implContains_c (w : World) (r s : R) :
    Calls Try.prog 23 #[.agg #[.int .i64 r.x0, .int .i64 r.y0, .int .i64 r.x1, .int .i64 r.y1], .agg #[.int .i64 s.x0, .int .i64 s.y0, .int .i64 s.x1, .int .i64 s.y1]] w fun e w' => e = .returned (.bool (r.contains s)) ∧ Mix.Ex w w' := by
  go_enter Try.func23, Try.ntmps23
  go_wp2_with (go_at_call 39; refine (ZZContains_c _ r s).mono ?_; rintro e w1 ⟨rfl, hx⟩)
  go_ret
  exact ⟨rfl, (((Mix.Ex.refl _).alloc _).alloc _).trans (by assumption)⟩

theorem implIntersects_c (w : World) (r s : R) :
    Calls Try.prog 24 #[.agg #[.int .i64 r.x0, .int .i64 r.y0, .int .i64 r.x1, .int .i64 r.y1], .agg #[.int .i64 s.x0, .int .i64 s.y0, .int .i64 s.x1, .int .i64 s.y1]] w fun e w' => e = .returned (.bool (r.intersects s)) ∧ Mix.Ex w w' := by
  go_enter Try.func24, Try.ntmps24
  go_wp2_with (go_at_call 40; refine (ZZIntersects_c _ r s).mono ?_; rintro e w1 ⟨rfl, hx⟩)
  go_ret
  exact ⟨rfl, (((Mix.Ex.refl _).alloc _).alloc _).trans (by assumption)⟩

theorem implEquals_c (w : World) (r s : R) :
    Calls Try.prog 26 #[.agg #[.int .i64 r.x0, .int .i64 r.y0, .int .i64 r.x1, .int .i64 r.y1], .agg #[.int .i64 s.x0, .int .i64 s.y0, .int .i64 s.x1, .int .i64 s.y1]] w fun e w' => e = .returned (.bool (r.equals s)) ∧ Mix.Ex w w' := by
  go_enter Try.func26, Try.ntmps26
  go_wp2_with (go_at_call 41; refine (ZZEquals_c _ r s).mono ?_; rintro e w1 ⟨rfl, hx⟩)
  go_ret
  exact ⟨rfl, (((Mix.Ex.refl _).alloc _).alloc _).trans (by assumption)⟩

theorem implOnedge_c (w : World) (r s : R) :
    Calls Try.prog 14 #[.agg #[.int .i64 r.x0, .int .i64 r.y0, .int .i64 r.x1, .int .i64 r.y1], .agg #[.int .i64 s.x0, .int .i64 s.y0, .int .i64 s.x1, .int .i64 s.y1]] w fun e w' => e = .returned (.bool (r.onedge s)) ∧ Mix.Ex w w' := by
  go_enter Try.func14, Try.ntmps14
  go_wp2_with (go_at_call 33; refine (ZZOnedge_c _ r s).mono ?_; rintro e w1 ⟨rfl, hx⟩)
  go_ret
  exact ⟨rfl, (((Mix.Ex.refl _).alloc _).alloc _).trans (by assumption)⟩

theorem implUnionedArea_c (w : World) (r s : R) (hr : r.small) (hs : s.small) :
    Calls Try.prog 20 #[.agg #[.int .i64 r.x0, .int .i64 r.y0, .int .i64 r.x1, .int .i64 r.y1], .agg #[.int .i64 s.x0, .int .i64 s.y0, .int .i64 s.x1, .int .i64 s.y1]] w fun e w' => e = .returned (.int .i64 (r.unionedArea s)) ∧ Mix.Ex w w' := by
  go_enter Try.func20, Try.ntmps20
  go_wp2_with (go_at_call 37; refine (ZZUnionedArea_c _ r s hr hs).mono ?_; rintro e w1 ⟨rfl, hx⟩)
  go_ret
  exact ⟨rfl, (((Mix.Ex.refl _).alloc _).alloc _).trans (by assumption)⟩

theorem implBoxDist_c (w : World) (r s : R) (hr : r.small) (hs : s.small) :
    Calls Try.prog 21 #[.agg #[.int .i64 r.x0, .int .i64 r.y0, .int .i64 r.x1, .int .i64 r.y1], .agg #[.int .i64 s.x0, .int .i64 s.y0, .int .i64 s.x1, .int .i64 s.y1]] w fun e w' => e = .returned (.int .i64 (r.boxDist s)) ∧ Mix.Ex w w' := by
  go_enter Try.func21, Try.ntmps21
  go_wp2_with (go_at_call 38; refine (ZZBoxDist_c _ r s hr hs).mono ?_; rintro e w1 ⟨rfl, hx⟩)
  go_ret
  exact ⟨rfl, (((Mix.Ex.refl _).alloc _).alloc _).trans (by assumption)⟩

theorem ZZArea_c (w : World) (r : R) (hr : r.small) :
    Calls Try.prog 36 #[.agg #[.int .i64 r.x0, .int .i64 r.y0, .int .i64 r.x1, .int .i64 r.y1]] w fun e w' => e = .returned (.int .i64 r.area) ∧ Mix.Ex w w' := by
  go_enter Try.func36, Try.ntmps36
  go_wp2_with (first | (go_at_call 47; refine (boxRect_c _ r).mono ?_; rintro e w1 ⟨b1, rfl, hb1, hr1, ho1, hx1⟩) | (go_at_call 52; refine (area_c _ _ _ r (by assumption) hr).mono ?_; rintro e w2 ⟨rfl, n2, rfl⟩))
  go_ret
  exact ⟨rfl, (((Mix.Ex.refl _).alloc _).trans (by assumption)).drewN _⟩

theorem ZZLargestAxis_c (w : World) (r : R) (hr : r.small) :
    Calls Try.prog 34 #[.agg #[.int .i64 r.x0, .int .i64 r.y0, .int .i64 r.x1, .int .i64 r.y1]] w fun e w' => e = .returned (.int .i64 r.largestAxis) ∧ Mix.Ex w w' := by
  go_enter Try.func34, Try.ntmps34
  go_wp2_with fail
  refine (boxRect_c _ r).mono ?_
  rintro e w1 ⟨b1, rfl, hb1, ⟨c0, c1, c2, c3⟩, ho1, hx1⟩
  simp only [Nat.zero_add] at c1 c2 c3
  go_wp2_with fail
  refine (largestAxis_c _ r hr).mono ?_
  rintro e w2 ⟨rfl, hx2⟩
  go_wp2_with fail
  go_ret
  exact ⟨rfl, (((Mix.Ex.refl _).alloc _).trans hx1).trans hx2⟩

theorem ZZExpand_c (w : World) (r s : R) :
    Calls Try.prog 35 #[.agg #[.int .i64 r.x0, .int .i64 r.y0, .int .i64 r.x1, .int .i64 r.y1], .agg #[.int .i64 s.x0, .int .i64 s.y0, .int .i64 s.x1, .int .i64 s.y1]] w fun e w' => e = .returned (.agg #[.int .i64 (r.expand s).x0, .int .i64 (r.expand s).y0, .int .i64 (r.expand s).x1, .int .i64 (r.expand s).y1]) ∧ Mix.Ex w w' := by
  go_enter Try.func35, Try.ntmps35
  go_wp2_with fail
  refine (boxRect_c _ r).mono ?_
  rintro e w1 ⟨b1, rfl, hb1, hr1, ho1, hx1⟩
  have h0 : w.heap.size + 3 ≤ b1 := by simpa using hb1
  obtain ⟨x1, rfl⟩ := hx1
  go_wp2_with fail
  refine (boxRect_c _ s).mono ?_
  rintro e w2 ⟨b2, rfl, hb2, hr2, ho2, hx2⟩
  have hlt := hr1.lt
  have hne : b1 ≠ b2 := by omega
  obtain ⟨f0, f1, f2, f3⟩ := ho1.of_ex hlt hx2
  have hr1 := hr1.of_ex hx2
  have hx2 := (Mix.Ex.refl _ |>.ext x1).trans hx2
  clear ho1 hb2 ho2
  obtain ⟨x2, rfl⟩ := hx2
  go_wp2_with fail
  refine (expand_c _ b1 0 b2 0 r s hr1 hr2 hne f0 f1 f2 f3).mono ?_
  rintro e w3 ⟨rfl, n3, hw3⟩
  have hr3 := (hr1.set (r.expand s)).of_dr n3
  have hx3 := (ex_setRect (Mix.Ex.refl _ |>.ext x2) (b := b1) (o := 0) hb1 (r.expand s)).drewN n3
  rw [← hw3] at hr3 hx3
  clear hw3 hr1 hr2 hb1 f0 f1 f2 f3
  obtain ⟨x3, rfl⟩ := hx3
  go_wp2_with fail
  refine (boxOf_c _ b1 0 _ hr3).mono ?_
  rintro e w4 ⟨rfl, hx4⟩
  have hx4 := (Mix.Ex.refl _ |>.ext x3).trans hx4
  clear hr3
  obtain ⟨x4, rfl⟩ := hx4
  go_wp2_with fail
  refine bodyPost_ret (v := .agg #[.int .i64 (r.expand s).x0, .int .i64 (r.expand s).y0, .int .i64 (r.expand s).x1, .int .i64 (r.expand s).y1]) (by simp [results, Try.results35, go_sem]) rfl ⟨rfl, ?_⟩
  exact (((Mix.Ex.refl _).alloc _).alloc _).alloc _ |>.ext _

theorem implExpand_c (w : World) (r s : R) :
    Calls Try.prog 16 #[.agg #[.int .i64 r.x0, .int .i64 r.y0, .int .i64 r.x1, .int .i64 r.y1], .agg #[.int .i64 s.x0, .int .i64 s.y0, .int .i64 s.x1, .int .i64 s.y1]] w fun e w' => e = .returned (.agg #[.int .i64 (r.expand s).x0, .int .i64 (r.expand s).y0, .int .i64 (r.expand s).x1, .int .i64 (r.expand s).y1]) ∧ Mix.Ex w w' := by
  go_enter Try.func16, Try.ntmps16
  go_wp2_with fail
  refine (ZZExpand_c _ r s).mono ?_
  rintro e w1 ⟨rfl, hx1⟩
  obtain ⟨x1, rfl⟩ := hx1
  go_wp2_with fail
  refine bodyPost_ret (v := .agg #[.int .i64 (r.expand s).x0, .int .i64 (r.expand s).y0, .int .i64 (r.expand s).x1, .int .i64 (r.expand s).y1]) (by simp [results, Try.results16, go_sem]) rfl ⟨rfl, ?_⟩
  exact (((Mix.Ex.refl _).alloc _).alloc _).alloc _ |>.ext _

theorem specAround_c (w : World) (r s : R) :
    Calls Try.prog 17 #[.agg #[.int .i64 r.x0, .int .i64 r.y0, .int .i64 r.x1, .int .i64 r.y1], .agg #[.int .i64 s.x0, .int .i64 s.y0, .int .i64 s.x1, .int .i64 s.y1]] w fun e w' => e = .returned (.agg #[.int .i64 (r.expand s).x0, .int .i64 (r.expand s).y0, .int .i64 (r.expand s).x1, .int .i64 (r.expand s).y1]) ∧ Mix.Ex w w' := by
  go_enter Try.func17, Try.ntmps17
  go_wp2_with fail
  refine bodyPost_ret (v := .agg #[.int .i64 (r.expand s).x0, .int .i64 (r.expand s).y0, .int .i64 (r.expand s).x1, .int .i64 (r.expand s).y1]) (by simp [results, Try.results17, go_sem, R.expand]) rfl ⟨rfl, ?_⟩
  exact (((Mix.Ex.refl _).alloc _).alloc _).alloc _

theorem specArea_c (w : World) (r : R) (hr : r.small) :
    Calls Try.prog 19 #[.agg #[.int .i64 r.x0, .int .i64 r.y0, .int .i64 r.x1, .int .i64 r.y1]] w fun e w' => e = .returned (.int .i64 r.area) ∧ Mix.Ex w w' := by
  obtain ⟨x0, y0, x1, y1⟩ := r
  obtain ⟨⟨a1, a2⟩, ⟨a3, a4⟩, ⟨a5, a6⟩, ⟨a7, a8⟩⟩ := hr
  dsimp only at *
  obtain ⟨m1, m2⟩ := mul_bound (a := x1 - x0) (b := y1 - y0) (by omega) (by omega)
  go_enter Try.func19, Try.ntmps19
  go_wp2_with fail
  go_ret
  exact ⟨ret_int (by simp [R.area]), (Mix.Ex.refl _).alloc _⟩

theorem implArea_c (w : World) (r : R) (hr : r.small) :
    Calls Try.prog 18 #[.agg #[.int .i64 r.x0, .int .i64 r.y0, .int .i64 r.x1, .int .i64 r.y1]] w fun e w' => e = .returned (.int .i64 r.area) ∧ Mix.Ex w w' := by
  go_enter Try.func18, Try.ntmps18
  go_wp2_with (go_at_call 36; refine (ZZArea_c _ r hr).mono ?_; rintro e w1 ⟨rfl, hx⟩)
  go_ret
  exact ⟨rfl, ((Mix.Ex.refl _).alloc _).trans (by assumption)⟩

theorem implLargestAxis_c (w : World) (r : R) (hr : r.small) :
    Calls Try.prog 15 #[.agg #[.int .i64 r.x0, .int .i64 r.y0, .int .i64 r.x1, .int .i64 r.y1]] w fun e w' => e = .returned (.int .i64 r.largestAxis) ∧ Mix.Ex w w' := by
  go_enter Try.func15, Try.ntmps15
  go_wp2_with (go_at_call 34; refine (ZZLargestAxis_c _ r hr).mono ?_; rintro e w1 ⟨rfl, hx⟩)
  go_ret
  exact ⟨rfl, ((Mix.Ex.refl _).alloc _).trans (by assumption)⟩

theorem BoxOf_c (w : World) (a b c d : Int) (ha : -32768 ≤ a ∧ a ≤ 32767) (hb : -32768 ≤ b ∧ b ≤ 32767) (hc : -32768 ≤ c ∧ c ≤ 32767) (hd : -32768 ≤ d ∧ d ≤ 32767) :
    Calls Try.prog 13 #[.int .i16 a, .int .i16 b, .int .i16 c, .int .i16 d] w fun e w' => e = .returned (.agg #[.int .i64 (R.of4 a b c d).x0, .int .i64 (R.of4 a b c d).y0, .int .i64 (R.of4 a b c d).x1, .int .i64 (R.of4 a b c d).y1]) ∧ Mix.Ex w w' := by
  obtain ⟨a1, a2⟩ := ha
  obtain ⟨b1, b2⟩ := hb
  obtain ⟨c1, c2⟩ := hc
  obtain ⟨d1, d2⟩ := hd
  go_enter Try.func13, Try.ntmps13
  go_wp2
  refine bodyPost_ret (v := .agg #[.int .i64 (R.of4 a b c d).x0, .int .i64 (R.of4 a b c d).y0, .int .i64 (R.of4 a b c d).x1, .int .i64 (R.of4 a b c d).y1]) (by simp [results, Try.results13, go_sem, R.of4]) rfl ⟨rfl, ?_⟩
  exact (Mix.Ex.refl _).alloc _

end Go.Proofs.Ytenokcfpmfoekaa
