/- The contracts of the functions on one box or two. -/
import Derived.Test.YtenokcfpmfoekaaProg
import Derived.Test.YtenokcfpmfoekaaExt
import Derived.Test.YtenokcfpmfoekaaPlain
import Derived.Deep.DeepCutAuto
set_option linter.unusedSimpArgs false
set_option linter.unusedVariables false
namespace Go.Proofs.Ytenokcfpmfoekaa
open Go.RowKit Go.Bx

/-- A box lies in memory at block b from cell o on. -/
def RectAt (w : World) (b o : Nat) (r : R) : Prop :=
  w.cell? ⟨b, o, none⟩ = some (.int .i64 r.x0) ∧ w.cell? ⟨b, o + 1, none⟩ = some (.int .i64 r.y0) ∧ w.cell? ⟨b, o + 2, none⟩ = some (.int .i64 r.x1) ∧ w.cell? ⟨b, o + 3, none⟩ = some (.int .i64 r.y1)

@[go_sem high] theorem run_min_int (P : Program) (w : World) (ts : Array TypeId) (t : TypeId) (k k' : IntKind) (x y : Int) : (Builtin.min_ ts t #[.int k x, .int k' y]).run P w = .ok (.int k (min x y)) w := by
  rw [run_min_int2]
  congr 2
  split <;> omega
@[go_sem high] theorem run_max_int (P : Program) (w : World) (ts : Array TypeId) (t : TypeId) (k k' : IntKind) (x y : Int) : (Builtin.max_ ts t #[.int k x, .int k' y]).run P w = .ok (.int k (max x y)) w := by
  rw [run_max_int2]
  congr 2
  split <;> omega

theorem ret_int {k : IntKind} {a b : Int} (h : a = b) : Ending.returned (.int k a) = .returned (.int k b) := by rw [h]
theorem fmin_c (a b : Int) (w : World) : Calls Try.prog 65 #[.int .i64 a, .int .i64 b] w fun e w' => e = .returned (.int .i64 (min a b)) ∧ w' = w := by
  by_cases h : a < b
  · go_enter Try.func65, Try.ntmps65
    go_wp2
    go_ret
    exact ⟨ret_int (by omega), rfl⟩
  · go_enter Try.func65, Try.ntmps65
    go_wp2
    go_ret
    exact ⟨ret_int (by omega), rfl⟩
theorem fmax_c (a b : Int) (w : World) : Calls Try.prog 64 #[.int .i64 a, .int .i64 b] w fun e w' => e = .returned (.int .i64 (max a b)) ∧ w' = w := by
  by_cases h : b < a
  · go_enter Try.func64, Try.ntmps64
    go_wp2
    go_ret
    exact ⟨ret_int (by omega), rfl⟩
  · go_enter Try.func64, Try.ntmps64
    go_wp2
    go_ret
    exact ⟨ret_int (by omega), rfl⟩

theorem contains_c (w : World) (b o c q : Nat) (r s : R) (hr : RectAt w b o r) (hs : RectAt w c q s) :
    Calls Try.prog 55 #[.pointer (some ⟨b, o, none⟩), .pointer (some ⟨c, q, none⟩)] w fun e w' => e = .returned (.bool (r.contains s)) ∧ ∃ n, w' = w.drewN n := by
  obtain ⟨x0, y0, x1, y1⟩ := r
  obtain ⟨u0, v0, u1, v1⟩ := s
  obtain ⟨h0, h1, h2, h3⟩ := hr
  obtain ⟨k0, k1, k2, k3⟩ := hs
  dsimp only at *
  go_enter Try.func55, Try.ntmps55
  go_wp2
  refine Mix.wp_region_dr (by kernel_rfl) (by kernel_rfl) ?_
  repeat (go_big_quiet_step (fail))
  cases g1 : decide (u0 < x0)
  case true =>
    repeat (go_big_quiet_step (fail))
    refine wpQuiet_nil ?_; intro nq
    go_wp2
    go_ret
    exact ⟨by simp [R.contains, g1], by repeat (first | exact Mix.Dr.refl _ | apply Mix.Dr.drewN)⟩
  repeat (go_big_quiet_step (fail))
  cases g2 : decide (x1 < u1)
  case true =>
    repeat (go_big_quiet_step (fail))
    refine wpQuiet_nil ?_; intro nq
    go_wp2
    go_ret
    exact ⟨by simp [R.contains, g1, g2], by repeat (first | exact Mix.Dr.refl _ | apply Mix.Dr.drewN)⟩
  repeat (go_big_quiet_step (fail))
  refine wpQuiet_nil ?_; intro nq
  go_wp2
  refine Mix.wp_region_dr (by kernel_rfl) (by kernel_rfl) ?_
  repeat (go_big_quiet_step (fail))
  cases g3 : decide (v0 < y0)
  case true =>
    repeat (go_big_quiet_step (fail))
    refine wpQuiet_nil ?_; intro nq
    go_wp2
    go_ret
    exact ⟨by simp [R.contains, g1, g2, g3], by repeat (first | exact Mix.Dr.refl _ | apply Mix.Dr.drewN)⟩
  repeat (go_big_quiet_step (fail))
  cases g4 : decide (y1 < v1)
  case true =>
    repeat (go_big_quiet_step (fail))
    refine wpQuiet_nil ?_; intro nq
    go_wp2
    go_ret
    exact ⟨by simp [R.contains, g1, g2, g3, g4], by repeat (first | exact Mix.Dr.refl _ | apply Mix.Dr.drewN)⟩
  repeat (go_big_quiet_step (fail))
  refine wpQuiet_nil ?_; intro nq
  go_wp2
  go_ret
  exact ⟨by simp [R.contains, g1, g2, g3, g4], by repeat (first | exact Mix.Dr.refl _ | apply Mix.Dr.drewN)⟩

theorem intersects_c (w : World) (b o c q : Nat) (r s : R) (hr : RectAt w b o r) (hs : RectAt w c q s) :
    Calls Try.prog 56 #[.pointer (some ⟨b, o, none⟩), .pointer (some ⟨c, q, none⟩)] w fun e w' => e = .returned (.bool (r.intersects s)) ∧ ∃ n, w' = w.drewN n := by
  obtain ⟨x0, y0, x1, y1⟩ := r
  obtain ⟨u0, v0, u1, v1⟩ := s
  obtain ⟨h0, h1, h2, h3⟩ := hr
  obtain ⟨k0, k1, k2, k3⟩ := hs
  dsimp only at *
  go_enter Try.func56, Try.ntmps56
  go_wp2
  refine Mix.wp_region_dr (by kernel_rfl) (by kernel_rfl) ?_
  repeat (go_big_quiet_step (fail))
  cases g1 : decide (x1 < u0)
  case true =>
    repeat (go_big_quiet_step (fail))
    refine wpQuiet_nil ?_; intro nq
    go_wp2
    go_ret
    exact ⟨by simp [R.intersects, g1], by repeat (first | exact Mix.Dr.refl _ | apply Mix.Dr.drewN)⟩
  repeat (go_big_quiet_step (fail))
  cases g2 : decide (u1 < x0)
  case true =>
    repeat (go_big_quiet_step (fail))
    refine wpQuiet_nil ?_; intro nq
    go_wp2
    go_ret
    exact ⟨by simp [R.intersects, g1, g2], by repeat (first | exact Mix.Dr.refl _ | apply Mix.Dr.drewN)⟩
  repeat (go_big_quiet_step (fail))
  refine wpQuiet_nil ?_; intro nq
  go_wp2
  refine Mix.wp_region_dr (by kernel_rfl) (by kernel_rfl) ?_
  repeat (go_big_quiet_step (fail))
  cases g3 : decide (y1 < v0)
  case true =>
    repeat (go_big_quiet_step (fail))
    refine wpQuiet_nil ?_; intro nq
    go_wp2
    go_ret
    exact ⟨by simp [R.intersects, g1, g2, g3], by repeat (first | exact Mix.Dr.refl _ | apply Mix.Dr.drewN)⟩
  repeat (go_big_quiet_step (fail))
  cases g4 : decide (v1 < y0)
  case true =>
    repeat (go_big_quiet_step (fail))
    refine wpQuiet_nil ?_; intro nq
    go_wp2
    go_ret
    exact ⟨by simp [R.intersects, g1, g2, g3, g4], by repeat (first | exact Mix.Dr.refl _ | apply Mix.Dr.drewN)⟩
  repeat (go_big_quiet_step (fail))
  refine wpQuiet_nil ?_; intro nq
  go_wp2
  go_ret
  exact ⟨by simp [R.intersects, g1, g2, g3, g4], by repeat (first | exact Mix.Dr.refl _ | apply Mix.Dr.drewN)⟩

set_option maxRecDepth 100000 in
theorem onedge_c (w : World) (b o c q : Nat) (r s : R) (hr : RectAt w b o r) (hs : RectAt w c q s) :
    Calls Try.prog 48 #[.pointer (some ⟨b, o, none⟩), .pointer (some ⟨c, q, none⟩)] w fun e w' => e = .returned (.bool (r.onedge s)) ∧ ∃ n, w' = w.drewN n := by
  obtain ⟨x0, y0, x1, y1⟩ := r
  obtain ⟨u0, v0, u1, v1⟩ := s
  obtain ⟨h0, h1, h2, h3⟩ := hr
  obtain ⟨k0, k1, k2, k3⟩ := hs
  dsimp only at *
  go_enter Try.func48, Try.ntmps48
  go_wp2
  refine Mix.wp_region_dr (by kernel_rfl) (by kernel_rfl) ?_
  repeat (go_big_quiet_step (fail))
  cases g1 : decide (u0 < x0)
  case false =>
    repeat (go_big_quiet_step (fail))
    refine wpQuiet_nil ?_; intro nq
    go_wp2
    go_ret
    exact ⟨by simp [R.onedge, g1], by repeat (first | exact Mix.Dr.refl _ | apply Mix.Dr.drewN)⟩
  repeat (go_big_quiet_step (fail))
  cases g2 : decide (v0 < y0)
  case false =>
    repeat (go_big_quiet_step (fail))
    refine wpQuiet_nil ?_; intro nq
    go_wp2
    go_ret
    exact ⟨by simp [R.onedge, g1, g2], by repeat (first | exact Mix.Dr.refl _ | apply Mix.Dr.drewN)⟩
  repeat (go_big_quiet_step (fail))
  cases g3 : decide (x1 < u1)
  case false =>
    repeat (go_big_quiet_step (fail))
    refine wpQuiet_nil ?_; intro nq
    go_wp2
    go_ret
    exact ⟨by simp [R.onedge, g1, g2, g3], by repeat (first | exact Mix.Dr.refl _ | apply Mix.Dr.drewN)⟩
  repeat (go_big_quiet_step (fail))
  refine wpQuiet_nil ?_; intro nq
  go_wp2
  go_ret
  exact ⟨by simp [R.onedge, g1, g2, g3], by repeat (first | exact Mix.Dr.refl _ | apply Mix.Dr.drewN)⟩

set_option maxRecDepth 100000 in
theorem equals_c (w : World) (b o c q : Nat) (r s : R) (hr : RectAt w b o r) (hs : RectAt w c q s) :
    Calls Try.prog 57 #[.pointer (some ⟨b, o, none⟩), .pointer (some ⟨c, q, none⟩)] w fun e w' => e = .returned (.bool (r.equals s)) ∧ ∃ n, w' = w.drewN n := by
  obtain ⟨x0, y0, x1, y1⟩ := r
  obtain ⟨u0, v0, u1, v1⟩ := s
  obtain ⟨h0, h1, h2, h3⟩ := hr
  obtain ⟨k0, k1, k2, k3⟩ := hs
  dsimp only at *
  go_enter Try.func57, Try.ntmps57
  go_wp2
  refine Mix.wp_region_dr (by kernel_rfl) (by kernel_rfl) ?_
  simp only [List.append_eq, List.cons_append, List.nil_append]
  repeat (go_big_quiet_step (fail))
  cases g1 : decide (x0 < u0)
  case true =>
    repeat (go_big_quiet_step (fail))
    refine wpQuiet_nil ?_; intro nq
    go_wp2
    go_ret
    exact ⟨by simp [R.equals, g1], by repeat (first | exact Mix.Dr.refl _ | apply Mix.Dr.drewN)⟩
  repeat (go_big_quiet_step (fail))
  cases g2 : decide (u0 < x0)
  case true =>
    repeat (go_big_quiet_step (fail))
    refine wpQuiet_nil ?_; intro nq
    go_wp2
    go_ret
    exact ⟨by simp [R.equals, g1, g2], by repeat (first | exact Mix.Dr.refl _ | apply Mix.Dr.drewN)⟩
  repeat (go_big_quiet_step (fail))
  cases g3 : decide (y0 < v0)
  case true =>
    repeat (go_big_quiet_step (fail))
    refine wpQuiet_nil ?_; intro nq
    go_wp2
    go_ret
    exact ⟨by simp [R.equals, g1, g2, g3], by repeat (first | exact Mix.Dr.refl _ | apply Mix.Dr.drewN)⟩
  repeat (go_big_quiet_step (fail))
  cases g4 : decide (v0 < y0)
  case true =>
    repeat (go_big_quiet_step (fail))
    refine wpQuiet_nil ?_; intro nq
    go_wp2
    go_ret
    exact ⟨by simp [R.equals, g1, g2, g3, g4], by repeat (first | exact Mix.Dr.refl _ | apply Mix.Dr.drewN)⟩
  repeat (go_big_quiet_step (fail))
  cases g5 : decide (x1 < u1)
  case true =>
    repeat (go_big_quiet_step (fail))
    refine wpQuiet_nil ?_; intro nq
    go_wp2
    go_ret
    exact ⟨by simp [R.equals, g1, g2, g3, g4, g5], by repeat (first | exact Mix.Dr.refl _ | apply Mix.Dr.drewN)⟩
  repeat (go_big_quiet_step (fail))
  cases g6 : decide (u1 < x1)
  case true =>
    repeat (go_big_quiet_step (fail))
    refine wpQuiet_nil ?_; intro nq
    go_wp2
    go_ret
    exact ⟨by simp [R.equals, g1, g2, g3, g4, g5, g6], by repeat (first | exact Mix.Dr.refl _ | apply Mix.Dr.drewN)⟩
  repeat (go_big_quiet_step (fail))
  cases g7 : decide (y1 < v1)
  case true =>
    repeat (go_big_quiet_step (fail))
    refine wpQuiet_nil ?_; intro nq
    go_wp2
    go_ret
    exact ⟨by simp [R.equals, g1, g2, g3, g4, g5, g6, g7], by repeat (first | exact Mix.Dr.refl _ | apply Mix.Dr.drewN)⟩
  repeat (go_big_quiet_step (fail))
  refine wpQuiet_nil ?_; intro nq
  go_wp2
  go_ret
  exact ⟨by simp [R.equals, g1, g2, g3, g4, g5, g6, g7], by repeat (first | exact Mix.Dr.refl _ | apply Mix.Dr.drewN)⟩

end Go.Proofs.Ytenokcfpmfoekaa
