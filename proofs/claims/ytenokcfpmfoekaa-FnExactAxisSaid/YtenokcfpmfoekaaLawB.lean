/- The walks of the laws over one box or two: each answers true. -/
import Derived.Test.YtenokcfpmfoekaaEq
import Derived.Test.YtenokcfpmfoekaaLawA
import Derived.Lib.Hide
set_option linter.unusedSimpArgs false
set_option linter.unusedVariables false
namespace Go.Proofs.Ytenokcfpmfoekaa
open Go.RowKit Go.Bx

theorem expand_walk (a b c d a' b' c' d' : Int) (ha : I16 a) (hb : I16 b) (hc : I16 c) (hd : I16 d) (ha' : I16 a') (hb' : I16 b') (hc' : I16 c') (hd' : I16 d') (w : World) :
    Calls Try.prog 5 #[.int .i16 a, .int .i16 b, .int .i16 c, .int .i16 d, .int .i16 a', .int .i16 b', .int .i16 c', .int .i16 d'] w fun e w' => e = .returned (.bool true) ∧ Mix.Ex w w' := by
  go_enter Try.func5, Try.ntmps5
  go_wp2_with fail
  refine (BoxOf_c _ a b c d ha hb hc hd).mono ?_
  rintro e w1 ⟨rfl, x1, rfl⟩
  have hr := R.small_of4 ha hb hc hd
  have kr := R.ok_of4 a b c d
  generalize R.of4 a b c d = r at *
  go_wp2_with fail
  refine (BoxOf_c _ a' b' c' d' ha' hb' hc' hd').mono ?_
  rintro e w2 ⟨rfl, x2, rfl⟩
  have hs := R.small_of4 ha' hb' hc' hd'
  have ks := R.ok_of4 a' b' c' d'
  generalize R.of4 a' b' c' d' = s at *
  have Hr := Lib.hid hr
  have Hs := Lib.hid hs
  have Kr := Lib.hid kr
  have Ks := Lib.hid ks
  clear hr hs kr ks
  go_wp2_with fail
  (refine Mix.wp_region_ex (by kernel_rfl) (by kernel_rfl) ?_; (repeat (go_big_quiet_step (first | (go_at_call 16; exact Mix.calls_qx (implExpand_c _ r s) (fun y => ⟨_, World.ext_ext _ _ _⟩)) | (go_at_call 17; exact Mix.calls_qx (specAround_c _ r s) (fun y => ⟨_, World.ext_ext _ _ _⟩))))); refine wpQuiet_nil ?_; intro nq)
  go_wp2_with fail
  go_ret
  refine ⟨ret_bool (by simp [same]), ?_⟩
  (repeat (first | exact Mix.Ex.refl _ | apply Mix.Ex.ext | apply Mix.Ex.drewN | apply Mix.Ex.alloc))

theorem dist_walk (a b c d a' b' c' d' : Int) (ha : I16 a) (hb : I16 b) (hc : I16 c) (hd : I16 d) (ha' : I16 a') (hb' : I16 b') (hc' : I16 c') (hd' : I16 d') (w : World) :
    Calls Try.prog 7 #[.int .i16 a, .int .i16 b, .int .i16 c, .int .i16 d, .int .i16 a', .int .i16 b', .int .i16 c', .int .i16 d'] w fun e w' => e = .returned (.bool true) ∧ Mix.Ex w w' := by
  go_enter Try.func7, Try.ntmps7
  go_wp2_with fail
  refine (BoxOf_c _ a b c d ha hb hc hd).mono ?_
  rintro e w1 ⟨rfl, x1, rfl⟩
  have hr := R.small_of4 ha hb hc hd
  have kr := R.ok_of4 a b c d
  generalize R.of4 a b c d = r at *
  go_wp2_with fail
  refine (BoxOf_c _ a' b' c' d' ha' hb' hc' hd').mono ?_
  rintro e w2 ⟨rfl, x2, rfl⟩
  have hs := R.small_of4 ha' hb' hc' hd'
  have ks := R.ok_of4 a' b' c' d'
  generalize R.of4 a' b' c' d' = s at *
  have Hr := Lib.hid hr
  have Hs := Lib.hid hs
  have Kr := Lib.hid kr
  have Ks := Lib.hid ks
  clear hr hs kr ks
  go_wp2_with fail
  (refine Mix.wp_region_ex (by kernel_rfl) (by kernel_rfl) ?_; (repeat (go_big_quiet_step (first | (go_at_call 21; exact Mix.calls_qx (implBoxDist_c _ r s Hr.out Hs.out) (fun y => ⟨_, World.ext_ext _ _ _⟩)) | (go_at_call 22; exact Mix.calls_qx (specDist_c _ r s Hr.out Hs.out Kr.out Ks.out) (fun y => ⟨_, World.ext_ext _ _ _⟩))))); refine wpQuiet_nil ?_; intro nq)
  go_wp2_with fail
  go_ret
  refine ⟨ret_bool (by simp [same]), ?_⟩
  (repeat (first | exact Mix.Ex.refl _ | apply Mix.Ex.ext | apply Mix.Ex.drewN | apply Mix.Ex.alloc))

theorem area_walk (a b c d a' b' c' d' : Int) (ha : I16 a) (hb : I16 b) (hc : I16 c) (hd : I16 d) (ha' : I16 a') (hb' : I16 b') (hc' : I16 c') (hd' : I16 d') (w : World) :
    Calls Try.prog 6 #[.int .i16 a, .int .i16 b, .int .i16 c, .int .i16 d, .int .i16 a', .int .i16 b', .int .i16 c', .int .i16 d'] w fun e w' => e = .returned (.bool true) ∧ Mix.Ex w w' := by
  go_enter Try.func6, Try.ntmps6
  go_wp2_with fail
  refine (BoxOf_c _ a b c d ha hb hc hd).mono ?_
  rintro e w1 ⟨rfl, x1, rfl⟩
  have hr := R.small_of4 ha hb hc hd
  have kr := R.ok_of4 a b c d
  generalize R.of4 a b c d = r at *
  go_wp2_with fail
  refine (BoxOf_c _ a' b' c' d' ha' hb' hc' hd').mono ?_
  rintro e w2 ⟨rfl, x2, rfl⟩
  have hs := R.small_of4 ha' hb' hc' hd'
  have ks := R.ok_of4 a' b' c' d'
  generalize R.of4 a' b' c' d' = s at *
  have Hr := Lib.hid hr
  have Hs := Lib.hid hs
  have Kr := Lib.hid kr
  have Ks := Lib.hid ks
  clear hr hs kr ks
  go_wp2_with fail
  (refine Mix.wp_region_ex (by kernel_rfl) (by kernel_rfl) ?_; (repeat (go_big_quiet_step (first | (go_at_call 18; exact Mix.calls_qx (implArea_c _ r Hr.out) (fun y => ⟨_, World.ext_ext _ _ _⟩)) | (go_at_call 19; refine Mix.calls_qx (specArea_c _ _ ?_) (fun y => ⟨_, World.ext_ext _ _ _⟩); first | exact Hr.out | exact R.small_expand Hr.out Hs.out) | (go_at_call 20; exact Mix.calls_qx (implUnionedArea_c _ r s Hr.out Hs.out) (fun y => ⟨_, World.ext_ext _ _ _⟩)) | (go_at_call 17; exact Mix.calls_qx (specAround_c _ r s) (fun y => ⟨_, World.ext_ext _ _ _⟩))))); refine wpQuiet_nil ?_; intro nq)
  go_wp2_with fail
  go_ret
  refine ⟨ret_bool (by simp [R.unionedArea]), ?_⟩
  (repeat (first | exact Mix.Ex.refl _ | apply Mix.Ex.ext | apply Mix.Ex.drewN | apply Mix.Ex.alloc))

theorem contains_iff {r s : R} : r.contains s = decide (r.expand s = r) := by
  obtain ⟨x0, y0, x1, y1⟩ := r
  obtain ⟨u0, v0, u1, v1⟩ := s
  rw [Bool.eq_iff_iff]
  simp [R.contains, R.expand]
  omega
theorem equals_iff {r s : R} : r.equals s = decide (r = s) := by
  obtain ⟨x0, y0, x1, y1⟩ := r
  obtain ⟨u0, v0, u1, v1⟩ := s
  rw [Bool.eq_iff_iff]
  simp [R.equals]
  omega

theorem compare_walk (a b c d a' b' c' d' : Int) (ha : I16 a) (hb : I16 b) (hc : I16 c) (hd : I16 d) (ha' : I16 a') (hb' : I16 b') (hc' : I16 c') (hd' : I16 d') (w : World) :
    Calls Try.prog 8 #[.int .i16 a, .int .i16 b, .int .i16 c, .int .i16 d, .int .i16 a', .int .i16 b', .int .i16 c', .int .i16 d'] w fun e w' => e = .returned (.bool true) ∧ Mix.Ex w w' := by
  go_enter Try.func8, Try.ntmps8
  go_wp2_with fail
  refine (BoxOf_c _ a b c d ha hb hc hd).mono ?_
  rintro e w1 ⟨rfl, x1, rfl⟩
  have hr := R.small_of4 ha hb hc hd
  have kr := R.ok_of4 a b c d
  generalize R.of4 a b c d = r at *
  go_wp2_with fail
  refine (BoxOf_c _ a' b' c' d' ha' hb' hc' hd').mono ?_
  rintro e w2 ⟨rfl, x2, rfl⟩
  have hs := R.small_of4 ha' hb' hc' hd'
  have ks := R.ok_of4 a' b' c' d'
  generalize R.of4 a' b' c' d' = s at *
  have Hr := Lib.hid hr
  have Hs := Lib.hid hs
  have Kr := Lib.hid kr
  have Ks := Lib.hid ks
  clear hr hs kr ks
  go_wp2_with fail
  have h1 : (r.contains s == same ⟨(r.expand s).x0, (r.expand s).y0, (r.expand s).x1, (r.expand s).y1⟩ ⟨r.x0, r.y0, r.x1, r.y1⟩) = true := by
    show (r.contains s == same (r.expand s) r) = true
    rw [contains_iff]; simp [same]
  have h2 : (r.equals s == same ⟨r.x0, r.y0, r.x1, r.y1⟩ ⟨s.x0, s.y0, s.x1, s.y1⟩) = true := by
    show (r.equals s == same r s) = true
    rw [equals_iff]; simp [same]
  (refine Mix.wp_region_ex (by kernel_rfl) (by kernel_rfl) ?_; (repeat (go_big_quiet_step (first | (go_at_call 23; exact Mix.calls_qx (implContains_c _ r s) (fun y => ⟨_, World.ext_ext _ _ _⟩)) | (go_at_call 17; exact Mix.calls_qx (specAround_c _ r s) (fun y => ⟨_, World.ext_ext _ _ _⟩)) | (go_at_call 24; exact Mix.calls_qx (implIntersects_c _ r s) (fun y => ⟨_, World.ext_ext _ _ _⟩)) | (go_at_call 25; exact Mix.calls_qx (specMeet_c _ r s) (fun y => ⟨_, World.ext_ext _ _ _⟩)) | (go_at_call 26; exact Mix.calls_qx (implEquals_c _ r s) (fun y => ⟨_, World.ext_ext _ _ _⟩))))); refine wpQuiet_nil ?_; intro nq)
  go_wp2_with fail
  go_ret
  refine ⟨ret_bool (by simp [same]), ?_⟩
  (repeat (first | exact Mix.Ex.refl _ | apply Mix.Ex.ext | apply Mix.Ex.drewN | apply Mix.Ex.alloc))

theorem axis_walk (a b c d : Int) (ha : I16 a) (hb : I16 b) (hc : I16 c) (hd : I16 d) (w : World) :
    Calls Try.prog 4 #[.int .i16 a, .int .i16 b, .int .i16 c, .int .i16 d] w fun e w' => e = .returned (.bool true) ∧ Mix.Ex w w' := by
  go_enter Try.func4, Try.ntmps4
  go_wp2_with fail
  refine (BoxOf_c _ a b c d ha hb hc hd).mono ?_
  rintro e w1 ⟨rfl, x1, rfl⟩
  have hr := R.small_of4 ha hb hc hd
  generalize R.of4 a b c d = r at *
  have Hr := Lib.hid hr
  obtain ⟨⟨a1, a2⟩, ⟨a3, a4⟩, ⟨a5, a6⟩, ⟨a7, a8⟩⟩ := hr
  by_cases h : r.x1 - r.x0 < r.y1 - r.y0
  · have hl : r.largestAxis = 1 := by rw [R.largestAxis, if_pos h]
    have Hl := Lib.hid hl
    clear hl
    go_wp2_with (go_at_call 15; refine (implLargestAxis_c _ r Hr.out).mono ?_; rintro e w2 ⟨rfl, x2, rfl⟩)
    go_ret
    refine ⟨ret_bool (by rw [Hl.out]; rfl), ?_⟩
    (repeat (first | exact Mix.Ex.refl _ | apply Mix.Ex.ext | apply Mix.Ex.drewN | apply Mix.Ex.alloc))
  · have hl : r.largestAxis = 0 := by rw [R.largestAxis, if_neg h]
    have Hl := Lib.hid hl
    clear hl
    go_wp2_with (go_at_call 15; refine (implLargestAxis_c _ r Hr.out).mono ?_; rintro e w2 ⟨rfl, x2, rfl⟩)
    go_ret
    refine ⟨ret_bool (by rw [Hl.out]; rfl), ?_⟩
    (repeat (first | exact Mix.Ex.refl _ | apply Mix.Ex.ext | apply Mix.Ex.drewN | apply Mix.Ex.alloc))
end Go.Proofs.Ytenokcfpmfoekaa
