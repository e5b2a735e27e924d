/- The contract of 'expand': a box becomes the box around it and another one. -/
import Derived.Test.YtenokcfpmfoekaaRectB
set_option linter.unusedSimpArgs false
set_option linter.unusedVariables false
namespace Go.Proofs.Ytenokcfpmfoekaa
open Go.RowKit Go.Bx

/-- A box written into memory. -/
def setRect (w : World) (b o : Nat) (r : R) : World :=
  (((w.setCell ⟨b, o, none⟩ (.int .i64 r.x0)).setCell ⟨b, o + 1, none⟩ (.int .i64 r.y0)).setCell ⟨b, o + 2, none⟩ (.int .i64 r.x1)).setCell ⟨b, o + 3, none⟩ (.int .i64 r.y1)

set_option maxRecDepth 100000 in
theorem expand_c (w : World) (b o c q : Nat) (r s : R) (hr : RectAt w b o r) (hs : RectAt w c q s) (hbc : b ≠ c)
    (f0 : w.frozen? ⟨b, o, none⟩ = false) (f1 : w.frozen? ⟨b, o + 1, none⟩ = false) (f2 : w.frozen? ⟨b, o + 2, none⟩ = false) (f3 : w.frozen? ⟨b, o + 3, none⟩ = false) :
    Calls Try.prog 50 #[.pointer (some ⟨b, o, none⟩), .pointer (some ⟨c, q, none⟩)] w fun e w' => e = .returned (.tuple #[]) ∧ ∃ n, w' = (setRect w b o (r.expand s)).drewN n := by
  obtain ⟨x0, y0, x1, y1⟩ := r
  obtain ⟨s0, t0, s1, t1⟩ := s
  obtain ⟨h0, h1, h2, h3⟩ := hr
  obtain ⟨k0, k1, k2, k3⟩ := hs
  dsimp only at *
  go_enter Try.func50, Try.ntmps50
  go_wp2_with fail
  (refine Mix.wp_region_dr (by kernel_rfl) (by kernel_rfl) ?_; (repeat (go_big_quiet_step (fail))); refine wpQuiet_nil ?_; intro nq)
  go_upto_if 14 with (fail)
  go_cut [] (fun wc => ∃ n, wc = (w.setCell ⟨b, o, none⟩ (.int .i64 (min x0 s0))).drewN n)
  case first =>
    by_cases g : s0 < x0
    · go_wp2_with fail
      (refine Mix.wp_region_drw 9 [0] (by kernel_rfl) (by kernel_rfl) ?_; simp only [List.take_succ_cons, List.take_zero, List.drop_succ_cons, List.drop_zero]; (repeat (go_big_quiet_step (fail))); refine wpQuiet_nil ?_)
      (refine Mix.wpTl_dr (fun n K hK => ?_); go_simp; refine ⟨_, ⟨_, rfl⟩, hK _ _ trivial ?_⟩; clear hK K; simp only [Act.put, List.take_succ_cons, List.take_zero, List.drop_succ_cons, List.drop_zero])
      (refine wpQuiet_nil ?_; intro nq)
      go_wp2_with fail
      go_meet
      exact ⟨_, by rw [show min x0 s0 = s0 by omega]⟩
    · go_wp2_with fail
      go_meet
      have e : w.setCell ⟨b, o, none⟩ (.int .i64 (min x0 s0)) = w := World.setCell_self (by rw [show min x0 s0 = x0 by omega]; go_simp)
      rw [e]
      repeat (first | exact Mix.Dr.refl _ | apply Mix.Dr.drewN)
  obtain ⟨n0, rfl⟩ := hcut
  go_wp2_with fail
  (refine Mix.wp_region_dr (by kernel_rfl) (by kernel_rfl) ?_; (repeat (go_big_quiet_step (fail))); refine wpQuiet_nil ?_; intro nq)
  go_upto_if 34 with (fail)
  go_cut [] (fun wc => ∃ n, wc = ((w.setCell ⟨b, o, none⟩ (.int .i64 (min x0 s0))).setCell ⟨b, o + 2, none⟩ (.int .i64 (max x1 s1))).drewN n)
  case first =>
    by_cases g : x1 < s1
    · go_wp2_with fail
      (refine Mix.wp_region_drw 9 [0] (by kernel_rfl) (by kernel_rfl) ?_; simp only [List.take_succ_cons, List.take_zero, List.drop_succ_cons, List.drop_zero]; (repeat (go_big_quiet_step (fail))); refine wpQuiet_nil ?_)
      (refine Mix.wpTl_dr (fun n K hK => ?_); go_simp; refine ⟨_, ⟨_, rfl⟩, hK _ _ trivial ?_⟩; clear hK K; simp only [Act.put, List.take_succ_cons, List.take_zero, List.drop_succ_cons, List.drop_zero])
      (refine wpQuiet_nil ?_; intro nq)
      go_wp2_with fail
      go_meet
      exact ⟨_, by rw [show max x1 s1 = s1 by omega]⟩
    · go_wp2_with fail
      go_meet
      have e : (w.setCell ⟨b, o, none⟩ (.int .i64 (min x0 s0))).setCell ⟨b, o + 2, none⟩ (.int .i64 (max x1 s1)) = (w.setCell ⟨b, o, none⟩ (.int .i64 (min x0 s0))) := World.setCell_self (by rw [show max x1 s1 = x1 by omega]; go_simp)
      rw [e]
      repeat (first | exact Mix.Dr.refl _ | apply Mix.Dr.drewN)
  obtain ⟨n1, rfl⟩ := hcut
  go_wp2_with fail
  (refine Mix.wp_region_dr (by kernel_rfl) (by kernel_rfl) ?_; (repeat (go_big_quiet_step (fail))); refine wpQuiet_nil ?_; intro nq)
  go_upto_if 54 with (fail)
  go_cut [] (fun wc => ∃ n, wc = (((w.setCell ⟨b, o, none⟩ (.int .i64 (min x0 s0))).setCell ⟨b, o + 2, none⟩ (.int .i64 (max x1 s1))).setCell ⟨b, o + 1, none⟩ (.int .i64 (min y0 t0))).drewN n)
  case first =>
    by_cases g : t0 < y0
    · go_wp2_with fail
      (refine Mix.wp_region_drw 9 [0] (by kernel_rfl) (by kernel_rfl) ?_; simp only [List.take_succ_cons, List.take_zero, List.drop_succ_cons, List.drop_zero]; (repeat (go_big_quiet_step (fail))); refine wpQuiet_nil ?_)
      (refine Mix.wpTl_dr (fun n K hK => ?_); go_simp; refine ⟨_, ⟨_, rfl⟩, hK _ _ trivial ?_⟩; clear hK K; simp only [Act.put, List.take_succ_cons, List.take_zero, List.drop_succ_cons, List.drop_zero])
      (refine wpQuiet_nil ?_; intro nq)
      go_wp2_with fail
      go_meet
      exact ⟨_, by rw [show min y0 t0 = t0 by omega]⟩
    · go_wp2_with fail
      go_meet
      have e : ((w.setCell ⟨b, o, none⟩ (.int .i64 (min x0 s0))).setCell ⟨b, o + 2, none⟩ (.int .i64 (max x1 s1))).setCell ⟨b, o + 1, none⟩ (.int .i64 (min y0 t0)) = ((w.setCell ⟨b, o, none⟩ (.int .i64 (min x0 s0))).setCell ⟨b, o + 2, none⟩ (.int .i64 (max x1 s1))) := World.setCell_self (by rw [show min y0 t0 = y0 by omega]; go_simp)
      rw [e]
      repeat (first | exact Mix.Dr.refl _ | apply Mix.Dr.drewN)
  obtain ⟨n2, rfl⟩ := hcut
  go_wp2_with fail
  (refine Mix.wp_region_dr (by kernel_rfl) (by kernel_rfl) ?_; (repeat (go_big_quiet_step (fail))); refine wpQuiet_nil ?_; intro nq)
  have fin : ((((w.setCell ⟨b, o, none⟩ (.int .i64 (min x0 s0))).setCell ⟨b, o + 2, none⟩ (.int .i64 (max x1 s1))).setCell ⟨b, o + 1, none⟩ (.int .i64 (min y0 t0))).setCell ⟨b, o + 3, none⟩ (.int .i64 (max y1 t1))) = setRect w b o (R.expand ⟨x0, y0, x1, y1⟩ ⟨s0, t0, s1, t1⟩) := by
    unfold setRect R.expand
    dsimp only
    rw [World.setCell_comm (w.setCell ⟨b, o, none⟩ (.int .i64 (min x0 s0))) (a := ⟨b, o + 2, none⟩) (b := ⟨b, o + 1, none⟩) _ _ (by simp) rfl rfl]
  by_cases g : y1 < t1
  · go_wp2_with fail
    (refine Mix.wp_region_drw 9 [0] (by kernel_rfl) (by kernel_rfl) ?_; simp only [List.take_succ_cons, List.take_zero, List.drop_succ_cons, List.drop_zero]; (repeat (go_big_quiet_step (fail))); refine wpQuiet_nil ?_)
    (refine Mix.wpTl_dr (fun n K hK => ?_); go_simp; refine ⟨_, ⟨_, rfl⟩, hK _ _ trivial ?_⟩; clear hK K; simp only [Act.put, List.take_succ_cons, List.take_zero, List.drop_succ_cons, List.drop_zero])
    (refine wpQuiet_nil ?_; intro nq)
    go_wp2_with fail
    go_end0
    exact ⟨rfl, _, by rw [← fin, show max y1 t1 = t1 by omega]⟩
  · go_wp2_with fail
    go_end0
    have e : (((w.setCell ⟨b, o, none⟩ (.int .i64 (min x0 s0))).setCell ⟨b, o + 2, none⟩ (.int .i64 (max x1 s1))).setCell ⟨b, o + 1, none⟩ (.int .i64 (min y0 t0))).setCell ⟨b, o + 3, none⟩ (.int .i64 (max y1 t1)) = (((w.setCell ⟨b, o, none⟩ (.int .i64 (min x0 s0))).setCell ⟨b, o + 2, none⟩ (.int .i64 (max x1 s1))).setCell ⟨b, o + 1, none⟩ (.int .i64 (min y0 t0))) := World.setCell_self (by rw [show max y1 t1 = y1 by omega]; go_simp)
    refine ⟨rfl, ?_⟩
    rw [← fin, e]
    repeat (first | exact Mix.Dr.refl _ | apply Mix.Dr.drewN)

theorem RectAt.of_ex {w w' : World} {b o : Nat} {r : R} (h : RectAt w b o r) (hx : Mix.Ex w w') : RectAt w' b o r := by
  obtain ⟨x, rfl⟩ := hx
  have hb := World.block_lt_of_cell? w _ h.1
  obtain ⟨h0, h1, h2, h3⟩ := h
  dsimp only at hb
  refine ⟨?_, ?_, ?_, ?_⟩ <;> (rw [World.cell?_ext _ _ _ _ _ hb]; assumption)
theorem OpenAt.of_ex {w w' : World} {b o : Nat} (h : OpenAt w b o) (hb : b < w.heap.size) (hx : Mix.Ex w w') : OpenAt w' b o := by
  obtain ⟨x, rfl⟩ := hx
  obtain ⟨h0, h1, h2, h3⟩ := h
  refine ⟨?_, ?_, ?_, ?_⟩ <;> (rw [World.frozen?_ext _ _ _ _ _ hb]; assumption)
theorem RectAt.lt {w : World} {b o : Nat} {r : R} (h : RectAt w b o r) : b < w.heap.size := World.block_lt_of_cell? w _ h.1
theorem RectAt.set {w : World} {b o : Nat} {r0 : R} (h : RectAt w b o r0) (r : R) : RectAt (setRect w b o r) b o r := by
  obtain ⟨h0, h1, h2, h3⟩ := h
  unfold setRect
  refine ⟨?_, ?_, ?_, ?_⟩ <;> go_simp
theorem ex_setRect {w w' : World} (h : Mix.Ex w w') {b o : Nat} (hb : w.heap.size ≤ b) (r : R) : Mix.Ex w (setRect w' b o r) := (((h.setCell hb _).setCell hb _).setCell hb _).setCell hb _
theorem RectAt.of_dr {w : World} {b o : Nat} {r : R} (h : RectAt w b o r) (n : Nat) : RectAt (w.drewN n) b o r := h
end Go.Proofs.Ytenokcfpmfoekaa
