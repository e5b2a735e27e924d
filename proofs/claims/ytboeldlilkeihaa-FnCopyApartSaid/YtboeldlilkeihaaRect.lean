/- The walks of the functions on a box. -/
import Derived.Test.YtboeldlilkeihaaProg
import Derived.Test.YtboeldlilkeihaaMix
import Derived.Test.YtboeldlilkeihaaPln
import Derived.Deep.DeepCutAuto
set_option linter.unusedSimpArgs false
set_option linter.unusedVariables false
/- The contracts of the functions on one box or two. -/
namespace Go.Proofs.Ytboeldlilkeihaa
open Go.RowKit Go.Bx

/-- A box lies in memory at block b from cell o on. -/
def RectAt (w : World) (b o : Nat) (r : R) : Prop :=
  w.cell? ⟨b, o, none⟩ = some (.int .i64 r.x0) ∧ w.cell? ⟨b, o + 1, none⟩ = some (.int .i64 r.y0) ∧ w.cell? ⟨b, o + 2, none⟩ = some (.int .i64 r.x1) ∧ w.cell? ⟨b, o + 3, none⟩ = some (.int .i64 r.y1)

@[go_sem high] theorem run_min_int (P : Program) (w : World) (ts : Array TypeId) (t : TypeId) (k k' : IntKind) (x y : Int) : (Builtin.min_ ts t #[.int k x, .int k' y]).run P w = .ok (.int k (min x y)) w := by
  rw [run_min_int2]
  congr 2
  split <;> omega
@[go_sem high] theorem run_max_int (P : Program) (w : World) (ts : Array TypeId) (t : TypeId) (k k' : IntKind) (x y : Int) : (Builtin.max_ ts t #[.int k x, .int k' y]).run P w = .ok (.int k (max x y)) w := by
  rw [run_max_int2]
  congr 2
  split <;> omega

theorem ret_int {k : IntKind} {a b : Int} (h : a = b) : Ending.returned (.int k a) = .returned (.int k b) := by rw [h]
theorem fmin_c (a b : Int) (w : World) : Calls Try.prog 78 #[.int .i64 a, .int .i64 b] w fun e w' => e = .returned (.int .i64 (min a b)) ∧ w' = w := by
  by_cases h : a < b
  · go_enter Try.func78, Try.ntmps78
    go_wp2
    go_ret
    exact ⟨ret_int (by omega), rfl⟩
  · go_enter Try.func78, Try.ntmps78
    go_wp2
    go_ret
    exact ⟨ret_int (by omega), rfl⟩
theorem fmax_c (a b : Int) (w : World) : Calls Try.prog 77 #[.int .i64 a, .int .i64 b] w fun e w' => e = .returned (.int .i64 (max a b)) ∧ w' = w := by
  by_cases h : b < a
  · go_enter Try.func77, Try.ntmps77
    go_wp2
    go_ret
    exact ⟨ret_int (by omega), rfl⟩
  · go_enter Try.func77, Try.ntmps77
    go_wp2
    go_ret
    exact ⟨ret_int (by omega), rfl⟩

theorem contains_c (w : World) (b o c q : Nat) (r s : R) (hr : RectAt w b o r) (hs : RectAt w c q s) :
    Calls Try.prog 89 #[.pointer (some ⟨b, o, none⟩), .pointer (some ⟨c, q, none⟩)] w fun e w' => e = .returned (.bool (r.contains s)) ∧ ∃ n, w' = w.drewN n := by
  obtain ⟨x0, y0, x1, y1⟩ := r
  obtain ⟨u0, v0, u1, v1⟩ := s
  obtain ⟨h0, h1, h2, h3⟩ := hr
  obtain ⟨k0, k1, k2, k3⟩ := hs
  dsimp only at *
  go_enter Try.func89, Try.ntmps89
  go_wp2
  refine Mix.wp_region_dr (by kernel_rfl) (by kernel_rfl) ?_
  repeat (go_big_quiet_step (fail))
  cases g1 : decide (u0 < x0)
  case true =>
    repeat (go_big_quiet_step (fail))
    refine wpQuiet_nil ?_; intro nq
    go_wp2
    go_ret
    exact ⟨by simp [R.contains, g1], by repeat (first | exact Mix.Dr.refl _ | apply Mix.Dr.drewN)⟩
  repeat (go_big_quiet_step (fail))
  cases g2 : decide (x1 < u1)
  case true =>
    repeat (go_big_quiet_step (fail))
    refine wpQuiet_nil ?_; intro nq
    go_wp2
    go_ret
    exact ⟨by simp [R.contains, g1, g2], by repeat (first | exact Mix.Dr.refl _ | apply Mix.Dr.drewN)⟩
  repeat (go_big_quiet_step (fail))
  refine wpQuiet_nil ?_; intro nq
  go_wp2
  refine Mix.wp_region_dr (by kernel_rfl) (by kernel_rfl) ?_
  repeat (go_big_quiet_step (fail))
  cases g3 : decide (v0 < y0)
  case true =>
    repeat (go_big_quiet_step (fail))
    refine wpQuiet_nil ?_; intro nq
    go_wp2
    go_ret
    exact ⟨by simp [R.contains, g1, g2, g3], by repeat (first | exact Mix.Dr.refl _ | apply Mix.Dr.drewN)⟩
  repeat (go_big_quiet_step (fail))
  cases g4 : decide (y1 < v1)
  case true =>
    repeat (go_big_quiet_step (fail))
    refine wpQuiet_nil ?_; intro nq
    go_wp2
    go_ret
    exact ⟨by simp [R.contains, g1, g2, g3, g4], by repeat (first | exact Mix.Dr.refl _ | apply Mix.Dr.drewN)⟩
  repeat (go_big_quiet_step (fail))
  refine wpQuiet_nil ?_; intro nq
  go_wp2
  go_ret
  exact ⟨by simp [R.contains, g1, g2, g3, g4], by repeat (first | exact Mix.Dr.refl _ | apply Mix.Dr.drewN)⟩

theorem intersects_c (w : World) (b o c q : Nat) (r s : R) (hr : RectAt w b o r) (hs : RectAt w c q s) :
    Calls Try.prog 71 #[.pointer (some ⟨b, o, none⟩), .pointer (some ⟨c, q, none⟩)] w fun e w' => e = .returned (.bool (r.intersects s)) ∧ ∃ n, w' = w.drewN n := by
  obtain ⟨x0, y0, x1, y1⟩ := r
  obtain ⟨u0, v0, u1, v1⟩ := s
  obtain ⟨h0, h1, h2, h3⟩ := hr
  obtain ⟨k0, k1, k2, k3⟩ := hs
  dsimp only at *
  go_enter Try.func71, Try.ntmps71
  go_wp2
  refine Mix.wp_region_dr (by kernel_rfl) (by kernel_rfl) ?_
  repeat (go_big_quiet_step (fail))
  cases g1 : decide (x1 < u0)
  case true =>
    repeat (go_big_quiet_step (fail))
    refine wpQuiet_nil ?_; intro nq
    go_wp2
    go_ret
    exact ⟨by simp [R.intersects, g1], by repeat (first | exact Mix.Dr.refl _ | apply Mix.Dr.drewN)⟩
  repeat (go_big_quiet_step (fail))
  cases g2 : decide (u1 < x0)
  case true =>
    repeat (go_big_quiet_step (fail))
    refine wpQuiet_nil ?_; intro nq
    go_wp2
    go_ret
    exact ⟨by simp [R.intersects, g1, g2], by repeat (first | exact Mix.Dr.refl _ | apply Mix.Dr.drewN)⟩
  repeat (go_big_quiet_step (fail))
  refine wpQuiet_nil ?_; intro nq
  go_wp2
  refine Mix.wp_region_dr (by kernel_rfl) (by kernel_rfl) ?_
  repeat (go_big_quiet_step (fail))
  cases g3 : decide (y1 < v0)
  case true =>
    repeat (go_big_quiet_step (fail))
    refine wpQuiet_nil ?_; intro nq
    go_wp2
    go_ret
    exact ⟨by simp [R.intersects, g1, g2, g3], by repeat (first | exact Mix.Dr.refl _ | apply Mix.Dr.drewN)⟩
  repeat (go_big_quiet_step (fail))
  cases g4 : decide (v1 < y0)
  case true =>
    repeat (go_big_quiet_step (fail))
    refine wpQuiet_nil ?_; intro nq
    go_wp2
    go_ret
    exact ⟨by simp [R.intersects, g1, g2, g3, g4], by repeat (first | exact Mix.Dr.refl _ | apply Mix.Dr.drewN)⟩
  repeat (go_big_quiet_step (fail))
  refine wpQuiet_nil ?_; intro nq
  go_wp2
  go_ret
  exact ⟨by simp [R.intersects, g1, g2, g3, g4], by repeat (first | exact Mix.Dr.refl _ | apply Mix.Dr.drewN)⟩

set_option maxRecDepth 100000 in
theorem onedge_c (w : World) (b o c q : Nat) (r s : R) (hr : RectAt w b o r) (hs : RectAt w c q s) :
    Calls Try.prog 106 #[.pointer (some ⟨b, o, none⟩), .pointer (some ⟨c, q, none⟩)] w fun e w' => e = .returned (.bool (r.onedge s)) ∧ ∃ n, w' = w.drewN n := by
  obtain ⟨x0, y0, x1, y1⟩ := r
  obtain ⟨u0, v0, u1, v1⟩ := s
  obtain ⟨h0, h1, h2, h3⟩ := hr
  obtain ⟨k0, k1, k2, k3⟩ := hs
  dsimp only at *
  go_enter Try.func106, Try.ntmps106
  go_wp2
  refine Mix.wp_region_dr (by kernel_rfl) (by kernel_rfl) ?_
  repeat (go_big_quiet_step (fail))
  cases g1 : decide (u0 < x0)
  case false =>
    repeat (go_big_quiet_step (fail))
    refine wpQuiet_nil ?_; intro nq
    go_wp2
    go_ret
    exact ⟨by simp [R.onedge, g1], by repeat (first | exact Mix.Dr.refl _ | apply Mix.Dr.drewN)⟩
  repeat (go_big_quiet_step (fail))
  cases g2 : decide (v0 < y0)
  case false =>
    repeat (go_big_quiet_step (fail))
    refine wpQuiet_nil ?_; intro nq
    go_wp2
    go_ret
    exact ⟨by simp [R.onedge, g1, g2], by repeat (first | exact Mix.Dr.refl _ | apply Mix.Dr.drewN)⟩
  repeat (go_big_quiet_step (fail))
  cases g3 : decide (x1 < u1)
  case false =>
    repeat (go_big_quiet_step (fail))
    refine wpQuiet_nil ?_; intro nq
    go_wp2
    go_ret
    exact ⟨by simp [R.onedge, g1, g2, g3], by repeat (first | exact Mix.Dr.refl _ | apply Mix.Dr.drewN)⟩
  repeat (go_big_quiet_step (fail))
  refine wpQuiet_nil ?_; intro nq
  go_wp2
  go_ret
  exact ⟨by simp [R.onedge, g1, g2, g3], by repeat (first | exact Mix.Dr.refl _ | apply Mix.Dr.drewN)⟩

set_option maxRecDepth 100000 in
theorem equals_c (w : World) (b o c q : Nat) (r s : R) (hr : RectAt w b o r) (hs : RectAt w c q s) :
    Calls Try.prog 107 #[.pointer (some ⟨b, o, none⟩), .pointer (some ⟨c, q, none⟩)] w fun e w' => e = .returned (.bool (r.equals s)) ∧ ∃ n, w' = w.drewN n := by
  obtain ⟨x0, y0, x1, y1⟩ := r
  obtain ⟨u0, v0, u1, v1⟩ := s
  obtain ⟨h0, h1, h2, h3⟩ := hr
  obtain ⟨k0, k1, k2, k3⟩ := hs
  dsimp only at *
  go_enter Try.func107, Try.ntmps107
  go_wp2
  refine Mix.wp_region_dr (by kernel_rfl) (by kernel_rfl) ?_
  simp only [List.append_eq, List.cons_append, List.nil_append]
  repeat (go_big_quiet_step (fail))
  cases g1 : decide (x0 < u0)
  case true =>
    repeat (go_big_quiet_step (fail))
    refine wpQuiet_nil ?_; intro nq
    go_wp2
    go_ret
    exact ⟨by simp [R.equals, g1], by repeat (first | exact Mix.Dr.refl _ | apply Mix.Dr.drewN)⟩
  repeat (go_big_quiet_step (fail))
  cases g2 : decide (u0 < x0)
  case true =>
    repeat (go_big_quiet_step (fail))
    refine wpQuiet_nil ?_; intro nq
    go_wp2
    go_ret
    exact ⟨by simp [R.equals, g1, g2], by repeat (first | exact Mix.Dr.refl _ | apply Mix.Dr.drewN)⟩
  repeat (go_big_quiet_step (fail))
  cases g3 : decide (y0 < v0)
  case true =>
    repeat (go_big_quiet_step (fail))
    refine wpQuiet_nil ?_; intro nq
    go_wp2
    go_ret
    exact ⟨by simp [R.equals, g1, g2, g3], by repeat (first | exact Mix.Dr.refl _ | apply Mix.Dr.drewN)⟩
  repeat (go_big_quiet_step (fail))
  cases g4 : decide (v0 < y0)
  case true =>
    repeat (go_big_quiet_step (fail))
    refine wpQuiet_nil ?_; intro nq
    go_wp2
    go_ret
    exact ⟨by simp [R.equals, g1, g2, g3, g4], by repeat (first | exact Mix.Dr.refl _ | apply Mix.Dr.drewN)⟩
  repeat (go_big_quiet_step (fail))
  cases g5 : decide (x1 < u1)
  case true =>
    repeat (go_big_quiet_step (fail))
    refine wpQuiet_nil ?_; intro nq
    go_wp2
    go_ret
    exact ⟨by simp [R.equals, g1, g2, g3, g4, g5], by repeat (first | exact Mix.Dr.refl _ | apply Mix.Dr.drewN)⟩
  repeat (go_big_quiet_step (fail))
  cases g6 : decide (u1 < x1)
  case true =>
    repeat (go_big_quiet_step (fail))
    refine wpQuiet_nil ?_; intro nq
    go_wp2
    go_ret
    exact ⟨by simp [R.equals, g1, g2, g3, g4, g5, g6], by repeat (first | exact Mix.Dr.refl _ | apply Mix.Dr.drewN)⟩
  repeat (go_big_quiet_step (fail))
  cases g7 : decide (y1 < v1)
  case true =>
    repeat (go_big_quiet_step (fail))
    refine wpQuiet_nil ?_; intro nq
    go_wp2
    go_ret
    exact ⟨by simp [R.equals, g1, g2, g3, g4, g5, g6, g7], by repeat (first | exact Mix.Dr.refl _ | apply Mix.Dr.drewN)⟩
  repeat (go_big_quiet_step (fail))
  refine wpQuiet_nil ?_; intro nq
  go_wp2
  go_ret
  exact ⟨by simp [R.equals, g1, g2, g3, g4, g5, g6, g7], by repeat (first | exact Mix.Dr.refl _ | apply Mix.Dr.drewN)⟩

end Go.Proofs.Ytboeldlilkeihaa
/- The contracts of the functions that reckon with boxes: areas, distances, the longer axis. -/
namespace Go.Proofs.Ytboeldlilkeihaa
open Go.RowKit Go.Bx

/-- None of a box's cells is shut against writes. -/
def OpenAt (w : World) (b o : Nat) : Prop := w.frozen? ⟨b, o, none⟩ = false ∧ w.frozen? ⟨b, o + 1, none⟩ = false ∧ w.frozen? ⟨b, o + 2, none⟩ = false ∧ w.frozen? ⟨b, o + 3, none⟩ = false

theorem mul_bound {a b : Int} (ha : -65535 ≤ a ∧ a ≤ 65535) (hb : -65535 ≤ b ∧ b ≤ 65535) : -4294836225 ≤ a * b ∧ a * b ≤ 4294836225 := by
  have h1 : a * b ≤ 65535 * 65535 := by
    rcases Int.le_total 0 a with h | h
    · rcases Int.le_total 0 b with k | k
      · exact Int.mul_le_mul ha.2 hb.2 k (by omega)
      · exact Int.le_trans (Int.mul_nonpos_of_nonneg_of_nonpos h k) (by decide)
    · rcases Int.le_total 0 b with k | k
      · exact Int.le_trans (Int.mul_nonpos_of_nonpos_of_nonneg h k) (by decide)
      · have := Int.mul_le_mul (a := -a) (b := -b) (c := 65535) (d := 65535) (by omega) (by omega) (by omega) (by omega)
        rwa [Int.neg_mul_neg] at this
  have h2 : -(65535 * 65535) ≤ a * b := by
    have key : ∀ c d : Int, 0 ≤ c → c ≤ 65535 → 0 ≤ d → d ≤ 65535 → c * d ≤ 65535 * 65535 := fun c d h1 h2 h3 h4 => Int.mul_le_mul h2 h4 h3 (by omega)
    rcases Int.le_total 0 a with h | h
    · rcases Int.le_total 0 b with k | k
      · have := Int.mul_nonneg h k; omega
      · have := key a (-b) h ha.2 (by omega) (by omega)
        rw [Int.mul_neg] at this; omega
    · rcases Int.le_total 0 b with k | k
      · have := key (-a) b (by omega) (by omega) k hb.2
        rw [Int.neg_mul] at this; omega
      · have := Int.mul_nonneg_of_nonpos_of_nonpos h k; omega
  omega

theorem area_c (w : World) (b o : Nat) (r : R) (hr : RectAt w b o r) (hs : r.small) :
    Calls Try.prog 90 #[.pointer (some ⟨b, o, none⟩)] w fun e w' => e = .returned (.int .i64 r.area) ∧ ∃ n, w' = w.drewN n := by
  obtain ⟨x0, y0, x1, y1⟩ := r
  obtain ⟨h0, h1, h2, h3⟩ := hr
  obtain ⟨⟨a1, a2⟩, ⟨a3, a4⟩, ⟨a5, a6⟩, ⟨a7, a8⟩⟩ := hs
  dsimp only at *
  obtain ⟨m1, m2⟩ := mul_bound (a := x1 - x0) (b := y1 - y0) (by omega) (by omega)
  go_enter Try.func90, Try.ntmps90
  go_wp2
  (refine Mix.wp_region_dr (by kernel_rfl) (by kernel_rfl) ?_; (repeat (go_big_quiet_step (fail))); refine wpQuiet_nil ?_; intro nq)
  go_wp2
  go_ret
  exact ⟨ret_int (by simp [R.area]), _, rfl⟩

theorem unionedArea_c (w : World) (b o c q : Nat) (r s : R) (hr : RectAt w b o r) (hs : RectAt w c q s) (hrs : r.small) (hss : s.small) :
    Calls Try.prog 100 #[.pointer (some ⟨b, o, none⟩), .pointer (some ⟨c, q, none⟩)] w fun e w' => e = .returned (.int .i64 (r.unionedArea s)) ∧ ∃ n, w' = w.drewN n := by
  obtain ⟨x0, y0, x1, y1⟩ := r
  obtain ⟨u0, v0, u1, v1⟩ := s
  obtain ⟨h0, h1, h2, h3⟩ := hr
  obtain ⟨k0, k1, k2, k3⟩ := hs
  obtain ⟨⟨a1, a2⟩, ⟨a3, a4⟩, ⟨a5, a6⟩, ⟨a7, a8⟩⟩ := hrs
  obtain ⟨⟨b1, b2⟩, ⟨b3, b4⟩, ⟨b5, b6⟩, ⟨b7, b8⟩⟩ := hss
  dsimp only at *
  have l1 : -32768 ≤ max x1 u1 ∧ max x1 u1 ≤ 32767 := by omega
  have l2 : -32768 ≤ min x0 u0 ∧ min x0 u0 ≤ 32767 := by omega
  have l3 : -32768 ≤ max y1 v1 ∧ max y1 v1 ≤ 32767 := by omega
  have l4 : -32768 ≤ min y0 v0 ∧ min y0 v0 ≤ 32767 := by omega
  obtain ⟨m1, m2⟩ := mul_bound (a := max x1 u1 - min x0 u0) (b := max y1 v1 - min y0 v0) (by omega) (by omega)
  obtain ⟨l11, l12⟩ := l1
  obtain ⟨l21, l22⟩ := l2
  obtain ⟨l31, l32⟩ := l3
  obtain ⟨l41, l42⟩ := l4
  go_enter Try.func100, Try.ntmps100
  go_wp2
  (refine Mix.wp_region_dr (by kernel_rfl) (by kernel_rfl) ?_; (repeat (go_big_quiet_step (first | (go_at_call 77; exact Mix.calls_q (fmax_c _ _ _) ⟨_, rfl⟩) | (go_at_call 78; exact Mix.calls_q (fmin_c _ _ _) ⟨_, rfl⟩)))); refine wpQuiet_nil ?_; intro nq)
  go_wp2
  go_ret
  exact ⟨ret_int (by simp [R.unionedArea, R.area, R.expand]), _, rfl⟩

theorem largestAxis_c (w : World) (r : R) (hs : r.small) :
    Calls Try.prog 101 #[.agg #[.int .i64 r.x0, .int .i64 r.y0, .int .i64 r.x1, .int .i64 r.y1]] w fun e w' => e = .returned (.int .i64 r.largestAxis) ∧ Mix.Ex w w' := by
  obtain ⟨x0, y0, x1, y1⟩ := r
  obtain ⟨⟨a1, a2⟩, ⟨a3, a4⟩, ⟨a5, a6⟩, ⟨a7, a8⟩⟩ := hs
  dsimp only at *
  by_cases h : x1 - x0 < y1 - y0
  · go_enter Try.func101, Try.ntmps101
    go_wp2
    go_ret
    exact ⟨ret_int (by rw [R.largestAxis, if_pos h]; rfl), (Mix.Ex.refl _).alloc _⟩
  · go_enter Try.func101, Try.ntmps101
    go_wp2
    go_ret
    exact ⟨ret_int (by rw [R.largestAxis, if_neg (by dsimp only; omega)]; rfl), (Mix.Ex.refl _).alloc _⟩

set_option maxRecDepth 100000 in
theorem boxDist_c (w : World) (b o c q : Nat) (r s : R) (hr : RectAt w b o r) (hs : RectAt w c q s) (hrs : r.small) (hss : s.small) :
    Calls Try.prog 60 #[.pointer (some ⟨b, o, none⟩), .pointer (some ⟨c, q, none⟩)] w fun e w' => e = .returned (.int .i64 (r.boxDist s)) ∧ ∃ n, w' = w.drewN n := by
  obtain ⟨x0, y0, x1, y1⟩ := r
  obtain ⟨u0, v0, u1, v1⟩ := s
  obtain ⟨h0, h1, h2, h3⟩ := hr
  obtain ⟨k0, k1, k2, k3⟩ := hs
  obtain ⟨⟨a1, a2⟩, ⟨a3, a4⟩, ⟨a5, a6⟩, ⟨a7, a8⟩⟩ := hrs
  obtain ⟨⟨b1, b2⟩, ⟨b3, b4⟩, ⟨b5, b6⟩, ⟨b7, b8⟩⟩ := hss
  dsimp only at *
  obtain ⟨l11, l12⟩ : -32768 ≤ max x0 u0 ∧ max x0 u0 ≤ 32767 := by omega
  obtain ⟨l21, l22⟩ : -32768 ≤ min x1 u1 ∧ min x1 u1 ≤ 32767 := by omega
  obtain ⟨l31, l32⟩ : -32768 ≤ max y0 v0 ∧ max y0 v0 ≤ 32767 := by omega
  obtain ⟨l41, l42⟩ : -32768 ≤ min y1 v1 ∧ min y1 v1 ≤ 32767 := by omega
  obtain ⟨m1, m2⟩ := mul_bound (a := max x0 u0 - min x1 u1) (b := max x0 u0 - min x1 u1) (by omega) (by omega)
  obtain ⟨m3, m4⟩ := mul_bound (a := max y0 v0 - min y1 v1) (b := max y0 v0 - min y1 v1) (by omega) (by omega)
  by_cases g1 : 0 < max x0 u0 - min x1 u1
  all_goals by_cases g2 : 0 < max y0 v0 - min y1 v1
  all_goals
    go_enter Try.func60, Try.ntmps60
    go_wp2
    (refine Mix.wp_region_dr (by kernel_rfl) (by kernel_rfl) ?_; (repeat (go_big_quiet_step (first | (go_at_call 77; exact Mix.calls_q (fmax_c _ _ _) ⟨_, rfl⟩) | (go_at_call 78; exact Mix.calls_q (fmin_c _ _ _) ⟨_, rfl⟩)))); refine wpQuiet_nil ?_; intro nq)
    go_wp2
    (refine Mix.wp_region_dr (by kernel_rfl) (by kernel_rfl) ?_; (repeat (go_big_quiet_step (first | (go_at_call 77; exact Mix.calls_q (fmax_c _ _ _) ⟨_, rfl⟩) | (go_at_call 78; exact Mix.calls_q (fmin_c _ _ _) ⟨_, rfl⟩)))); refine wpQuiet_nil ?_; intro nq)
    go_wp2
    go_ret
    refine ⟨ret_int ?_, by repeat (first | exact Mix.Dr.refl _ | apply Mix.Dr.drewN)⟩
    simp only [R.boxDist, R.gap]
    first | rw [show max 0 (max x0 u0 - min x1 u1) = max x0 u0 - min x1 u1 by omega] | rw [show max 0 (max x0 u0 - min x1 u1) = 0 by omega]
    first | rw [show max 0 (max y0 v0 - min y1 v1) = max y0 v0 - min y1 v1 by omega] | rw [show max 0 (max y0 v0 - min y1 v1) = 0 by omega]
    try simp

theorem boxRect_c (w : World) (r : R) :
    Calls Try.prog 59 #[.agg #[.int .i64 r.x0, .int .i64 r.y0, .int .i64 r.x1, .int .i64 r.y1]] w fun e w' => ∃ b, e = .returned (.pointer (some ⟨b, 0, none⟩)) ∧ w.heap.size ≤ b ∧ RectAt w' b 0 r ∧ OpenAt w' b 0 ∧ Mix.Ex w w' := by
  obtain ⟨x0, y0, x1, y1⟩ := r
  dsimp only at *
  go_enter Try.func59, Try.ntmps59
  go_wp2
  go_ret
  refine ⟨w.heap.size + 1, rfl, by omega, ?_, ?_, ((Mix.Ex.refl _).alloc _).alloc _⟩
  · refine ⟨?_, ?_, ?_, ?_⟩ <;> go_simp
  · refine ⟨?_, ?_, ?_, ?_⟩ <;> go_simp

end Go.Proofs.Ytboeldlilkeihaa
/- The contract of 'expand': a box becomes the box around it and another one. -/
namespace Go.Proofs.Ytboeldlilkeihaa
open Go.RowKit Go.Bx

/-- A box written into memory. -/
def setRect (w : World) (b o : Nat) (r : R) : World :=
  (((w.setCell ⟨b, o, none⟩ (.int .i64 r.x0)).setCell ⟨b, o + 1, none⟩ (.int .i64 r.y0)).setCell ⟨b, o + 2, none⟩ (.int .i64 r.x1)).setCell ⟨b, o + 3, none⟩ (.int .i64 r.y1)

set_option maxRecDepth 100000 in
theorem expand_c (w : World) (b o c q : Nat) (r s : R) (hr : RectAt w b o r) (hs : RectAt w c q s) (hbc : b ≠ c)
    (f0 : w.frozen? ⟨b, o, none⟩ = false) (f1 : w.frozen? ⟨b, o + 1, none⟩ = false) (f2 : w.frozen? ⟨b, o + 2, none⟩ = false) (f3 : w.frozen? ⟨b, o + 3, none⟩ = false) :
    Calls Try.prog 85 #[.pointer (some ⟨b, o, none⟩), .pointer (some ⟨c, q, none⟩)] w fun e w' => e = .returned (.tuple #[]) ∧ ∃ n, w' = (setRect w b o (r.expand s)).drewN n := by
  obtain ⟨x0, y0, x1, y1⟩ := r
  obtain ⟨s0, t0, s1, t1⟩ := s
  obtain ⟨h0, h1, h2, h3⟩ := hr
  obtain ⟨k0, k1, k2, k3⟩ := hs
  dsimp only at *
  go_enter Try.func85, Try.ntmps85
  go_wp2_with fail
  (refine Mix.wp_region_dr (by kernel_rfl) (by kernel_rfl) ?_; (repeat (go_big_quiet_step (fail))); refine wpQuiet_nil ?_; intro nq)
  go_upto_if 14 with (fail)
  go_cut [] (fun wc => ∃ n, wc = (w.setCell ⟨b, o, none⟩ (.int .i64 (min x0 s0))).drewN n)
  case first =>
    by_cases g : s0 < x0
    · go_wp2_with fail
      (refine Mix.wp_region_drw 9 [0] (by kernel_rfl) (by kernel_rfl) ?_; simp only [List.take_succ_cons, List.take_zero, List.drop_succ_cons, List.drop_zero]; (repeat (go_big_quiet_step (fail))); refine wpQuiet_nil ?_)
      (refine Mix.wpTl_dr (fun n K hK => ?_); go_simp; refine ⟨_, ⟨_, rfl⟩, hK _ _ trivial ?_⟩; clear hK K; simp only [Act.put, List.take_succ_cons, List.take_zero, List.drop_succ_cons, List.drop_zero])
      (refine wpQuiet_nil ?_; intro nq)
      go_wp2_with fail
      go_meet
      exact ⟨_, by rw [show min x0 s0 = s0 by omega]⟩
    · go_wp2_with fail
      go_meet
      have e : w.setCell ⟨b, o, none⟩ (.int .i64 (min x0 s0)) = w := World.setCell_self (by rw [show min x0 s0 = x0 by omega]; go_simp)
      rw [e]
      repeat (first | exact Mix.Dr.refl _ | apply Mix.Dr.drewN)
  obtain ⟨n0, rfl⟩ := hcut
  go_wp2_with fail
  (refine Mix.wp_region_dr (by kernel_rfl) (by kernel_rfl) ?_; (repeat (go_big_quiet_step (fail))); refine wpQuiet_nil ?_; intro nq)
  go_upto_if 34 with (fail)
  go_cut [] (fun wc => ∃ n, wc = ((w.setCell ⟨b, o, none⟩ (.int .i64 (min x0 s0))).setCell ⟨b, o + 2, none⟩ (.int .i64 (max x1 s1))).drewN n)
  case first =>
    by_cases g : x1 < s1
    · go_wp2_with fail
      (refine Mix.wp_region_drw 9 [0] (by kernel_rfl) (by kernel_rfl) ?_; simp only [List.take_succ_cons, List.take_zero, List.drop_succ_cons, List.drop_zero]; (repeat (go_big_quiet_step (fail))); refine wpQuiet_nil ?_)
      (refine Mix.wpTl_dr (fun n K hK => ?_); go_simp; refine ⟨_, ⟨_, rfl⟩, hK _ _ trivial ?_⟩; clear hK K; simp only [Act.put, List.take_succ_cons, List.take_zero, List.drop_succ_cons, List.drop_zero])
      (refine wpQuiet_nil ?_; intro nq)
      go_wp2_with fail
      go_meet
      exact ⟨_, by rw [show max x1 s1 = s1 by omega]⟩
    · go_wp2_with fail
      go_meet
      have e : (w.setCell ⟨b, o, none⟩ (.int .i64 (min x0 s0))).setCell ⟨b, o + 2, none⟩ (.int .i64 (max x1 s1)) = (w.setCell ⟨b, o, none⟩ (.int .i64 (min x0 s0))) := World.setCell_self (by rw [show max x1 s1 = x1 by omega]; go_simp)
      rw [e]
      repeat (first | exact Mix.Dr.refl _ | apply Mix.Dr.drewN)
  obtain ⟨n1, rfl⟩ := hcut
  go_wp2_with fail
  (refine Mix.wp_region_dr (by kernel_rfl) (by kernel_rfl) ?_; (repeat (go_big_quiet_step (fail))); refine wpQuiet_nil ?_; intro nq)
  go_upto_if 54 with (fail)
  go_cut [] (fun wc => ∃ n, wc = (((w.setCell ⟨b, o, none⟩ (.int .i64 (min x0 s0))).setCell ⟨b, o + 2, none⟩ (.int .i64 (max x1 s1))).setCell ⟨b, o + 1, none⟩ (.int .i64 (min y0 t0))).drewN n)
  case first =>
    by_cases g : t0 < y0
    · go_wp2_with fail
      (refine Mix.wp_region_drw 9 [0] (by kernel_rfl) (by kernel_rfl) ?_; simp only [List.take_succ_cons, List.take_zero, List.drop_succ_cons, List.drop_zero]; (repeat (go_big_quiet_step (fail))); refine wpQuiet_nil ?_)
      (refine Mix.wpTl_dr (fun n K hK => ?_); go_simp; refine ⟨_, ⟨_, rfl⟩, hK _ _ trivial ?_⟩; clear hK K; simp only [Act.put, List.take_succ_cons, List.take_zero, List.drop_succ_cons, List.drop_zero])
      (refine wpQuiet_nil ?_; intro nq)
      go_wp2_with fail
      go_meet
      exact ⟨_, by rw [show min y0 t0 = t0 by omega]⟩
    · go_wp2_with fail
      go_meet
      have e : ((w.setCell ⟨b, o, none⟩ (.int .i64 (min x0 s0))).setCell ⟨b, o + 2, none⟩ (.int .i64 (max x1 s1))).setCell ⟨b, o + 1, none⟩ (.int .i64 (min y0 t0)) = ((w.setCell ⟨b, o, none⟩ (.int .i64 (min x0 s0))).setCell ⟨b, o + 2, none⟩ (.int .i64 (max x1 s1))) := World.setCell_self (by rw [show min y0 t0 = y0 by omega]; go_simp)
      rw [e]
      repeat (first | exact Mix.Dr.refl _ | apply Mix.Dr.drewN)
  obtain ⟨n2, rfl⟩ := hcut
  go_wp2_with fail
  (refine Mix.wp_region_dr (by kernel_rfl) (by kernel_rfl) ?_; (repeat (go_big_quiet_step (fail))); refine wpQuiet_nil ?_; intro nq)
  have fin : ((((w.setCell ⟨b, o, none⟩ (.int .i64 (min x0 s0))).setCell ⟨b, o + 2, none⟩ (.int .i64 (max x1 s1))).setCell ⟨b, o + 1, none⟩ (.int .i64 (min y0 t0))).setCell ⟨b, o + 3, none⟩ (.int .i64 (max y1 t1))) = setRect w b o (R.expand ⟨x0, y0, x1, y1⟩ ⟨s0, t0, s1, t1⟩) := by
    unfold setRect R.expand
    dsimp only
    rw [World.setCell_comm (w.setCell ⟨b, o, none⟩ (.int .i64 (min x0 s0))) (a := ⟨b, o + 2, none⟩) (b := ⟨b, o + 1, none⟩) _ _ (by simp) rfl rfl]
  by_cases g : y1 < t1
  · go_wp2_with fail
    (refine Mix.wp_region_drw 9 [0] (by kernel_rfl) (by kernel_rfl) ?_; simp only [List.take_succ_cons, List.take_zero, List.drop_succ_cons, List.drop_zero]; (repeat (go_big_quiet_step (fail))); refine wpQuiet_nil ?_)
    (refine Mix.wpTl_dr (fun n K hK => ?_); go_simp; refine ⟨_, ⟨_, rfl⟩, hK _ _ trivial ?_⟩; clear hK K; simp only [Act.put, List.take_succ_cons, List.take_zero, List.drop_succ_cons, List.drop_zero])
    (refine wpQuiet_nil ?_; intro nq)
    go_wp2_with fail
    go_end0
    exact ⟨rfl, _, by rw [← fin, show max y1 t1 = t1 by omega]⟩
  · go_wp2_with fail
    go_end0
    have e : (((w.setCell ⟨b, o, none⟩ (.int .i64 (min x0 s0))).setCell ⟨b, o + 2, none⟩ (.int .i64 (max x1 s1))).setCell ⟨b, o + 1, none⟩ (.int .i64 (min y0 t0))).setCell ⟨b, o + 3, none⟩ (.int .i64 (max y1 t1)) = (((w.setCell ⟨b, o, none⟩ (.int .i64 (min x0 s0))).setCell ⟨b, o + 2, none⟩ (.int .i64 (max x1 s1))).setCell ⟨b, o + 1, none⟩ (.int .i64 (min y0 t0))) := World.setCell_self (by rw [show max y1 t1 = y1 by omega]; go_simp)
    refine ⟨rfl, ?_⟩
    rw [← fin, e]
    repeat (first | exact Mix.Dr.refl _ | apply Mix.Dr.drewN)

theorem RectAt.of_ex {w w' : World} {b o : Nat} {r : R} (h : RectAt w b o r) (hx : Mix.Ex w w') : RectAt w' b o r := by
  obtain ⟨x, rfl⟩ := hx
  have hb := World.block_lt_of_cell? w _ h.1
  obtain ⟨h0, h1, h2, h3⟩ := h
  dsimp only at hb
  refine ⟨?_, ?_, ?_, ?_⟩ <;> (rw [World.cell?_ext _ _ _ _ _ hb]; assumption)
theorem OpenAt.of_ex {w w' : World} {b o : Nat} (h : OpenAt w b o) (hb : b < w.heap.size) (hx : Mix.Ex w w') : OpenAt w' b o := by
  obtain ⟨x, rfl⟩ := hx
  obtain ⟨h0, h1, h2, h3⟩ := h
  refine ⟨?_, ?_, ?_, ?_⟩ <;> (rw [World.frozen?_ext _ _ _ _ _ hb]; assumption)
theorem RectAt.lt {w : World} {b o : Nat} {r : R} (h : RectAt w b o r) : b < w.heap.size := World.block_lt_of_cell? w _ h.1
theorem RectAt.set {w : World} {b o : Nat} {r0 : R} (h : RectAt w b o r0) (r : R) : RectAt (setRect w b o r) b o r := by
  obtain ⟨h0, h1, h2, h3⟩ := h
  unfold setRect
  refine ⟨?_, ?_, ?_, ?_⟩ <;> go_simp
theorem ex_setRect {w w' : World} (h : Mix.Ex w w') {b o : Nat} (hb : w.heap.size ≤ b) (r : R) : Mix.Ex w (setRect w' b o r) := (((h.setCell hb _).setCell hb _).setCell hb _).setCell hb _
theorem RectAt.of_dr {w : World} {b o : Nat} {r : R} (h : RectAt w b o r) (n : Nat) : RectAt (w.drewN n) b o r := h
end Go.Proofs.Ytboeldlilkeihaa
