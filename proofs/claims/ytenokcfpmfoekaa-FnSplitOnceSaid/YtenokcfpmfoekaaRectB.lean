/- The contracts of the functions that reckon with boxes: areas, distances, the longer axis. -/
import Derived.Test.YtenokcfpmfoekaaRect
set_option linter.unusedSimpArgs false
set_option linter.unusedVariables false
namespace Go.Proofs.Ytenokcfpmfoekaa
open Go.RowKit Go.Bx

/-- None of a box's cells is shut against writes. -/
def OpenAt (w : World) (b o : Nat) : Prop := w.frozen? ⟨b, o, none⟩ = false ∧ w.frozen? ⟨b, o + 1, none⟩ = false ∧ w.frozen? ⟨b, o + 2, none⟩ = false ∧ w.frozen? ⟨b, o + 3, none⟩ = false

theorem mul_bound {a b : Int} (ha : -65535 ≤ a ∧ a ≤ 65535) (hb : -65535 ≤ b ∧ b ≤ 65535) : -4294836225 ≤ a * b ∧ a * b ≤ 4294836225 := by
  have h1 : a * b ≤ 65535 * 65535 := by
    rcases Int.le_total 0 a with h | h
    · rcases Int.le_total 0 b with k | k
      · exact Int.mul_le_mul ha.2 hb.2 k (by omega)
      · exact Int.le_trans (Int.mul_nonpos_of_nonneg_of_nonpos h k) (by decide)
    · rcases Int.le_total 0 b with k | k
      · exact Int.le_trans (Int.mul_nonpos_of_nonpos_of_nonneg h k) (by decide)
      · have := Int.mul_le_mul (a := -a) (b := -b) (c := 65535) (d := 65535) (by omega) (by omega) (by omega) (by omega)
        rwa [Int.neg_mul_neg] at this
  have h2 : -(65535 * 65535) ≤ a * b := by
    have key : ∀ c d : Int, 0 ≤ c → c ≤ 65535 → 0 ≤ d → d ≤ 65535 → c * d ≤ 65535 * 65535 := fun c d h1 h2 h3 h4 => Int.mul_le_mul h2 h4 h3 (by omega)
    rcases Int.le_total 0 a with h | h
    · rcases Int.le_total 0 b with k | k
      · have := Int.mul_nonneg h k; omega
      · have := key a (-b) h ha.2 (by omega) (by omega)
        rw [Int.mul_neg] at this; omega
    · rcases Int.le_total 0 b with k | k
      · have := key (-a) b (by omega) (by omega) k hb.2
        rw [Int.neg_mul] at this; omega
      · have := Int.mul_nonneg_of_nonpos_of_nonpos h k; omega
  omega

theorem area_c (w : World) (b o : Nat) (r : R) (hr : RectAt w b o r) (hs : r.small) :
    Calls Try.prog 52 #[.pointer (some ⟨b, o, none⟩)] w fun e w' => e = .returned (.int .i64 r.area) ∧ ∃ n, w' = w.drewN n := by
  obtain ⟨x0, y0, x1, y1⟩ := r
  obtain ⟨h0, h1, h2, h3⟩ := hr
  obtain ⟨⟨a1, a2⟩, ⟨a3, a4⟩, ⟨a5, a6⟩, ⟨a7, a8⟩⟩ := hs
  dsimp only at *
  obtain ⟨m1, m2⟩ := mul_bound (a := x1 - x0) (b := y1 - y0) (by omega) (by omega)
  go_enter Try.func52, Try.ntmps52
  go_wp2
  (refine Mix.wp_region_dr (by kernel_rfl) (by kernel_rfl) ?_; (repeat (go_big_quiet_step (fail))); refine wpQuiet_nil ?_; intro nq)
  go_wp2
  go_ret
  exact ⟨ret_int (by simp [R.area]), _, rfl⟩

theorem unionedArea_c (w : World) (b o c q : Nat) (r s : R) (hr : RectAt w b o r) (hs : RectAt w c q s) (hrs : r.small) (hss : s.small) :
    Calls Try.prog 53 #[.pointer (some ⟨b, o, none⟩), .pointer (some ⟨c, q, none⟩)] w fun e w' => e = .returned (.int .i64 (r.unionedArea s)) ∧ ∃ n, w' = w.drewN n := by
  obtain ⟨x0, y0, x1, y1⟩ := r
  obtain ⟨u0, v0, u1, v1⟩ := s
  obtain ⟨h0, h1, h2, h3⟩ := hr
  obtain ⟨k0, k1, k2, k3⟩ := hs
  obtain ⟨⟨a1, a2⟩, ⟨a3, a4⟩, ⟨a5, a6⟩, ⟨a7, a8⟩⟩ := hrs
  obtain ⟨⟨b1, b2⟩, ⟨b3, b4⟩, ⟨b5, b6⟩, ⟨b7, b8⟩⟩ := hss
  dsimp only at *
  have l1 : -32768 ≤ max x1 u1 ∧ max x1 u1 ≤ 32767 := by omega
  have l2 : -32768 ≤ min x0 u0 ∧ min x0 u0 ≤ 32767 := by omega
  have l3 : -32768 ≤ max y1 v1 ∧ max y1 v1 ≤ 32767 := by omega
  have l4 : -32768 ≤ min y0 v0 ∧ min y0 v0 ≤ 32767 := by omega
  obtain ⟨m1, m2⟩ := mul_bound (a := max x1 u1 - min x0 u0) (b := max y1 v1 - min y0 v0) (by omega) (by omega)
  obtain ⟨l11, l12⟩ := l1
  obtain ⟨l21, l22⟩ := l2
  obtain ⟨l31, l32⟩ := l3
  obtain ⟨l41, l42⟩ := l4
  go_enter Try.func53, Try.ntmps53
  go_wp2
  (refine Mix.wp_region_dr (by kernel_rfl) (by kernel_rfl) ?_; (repeat (go_big_quiet_step (first | (go_at_call 64; exact Mix.calls_q (fmax_c _ _ _) ⟨_, rfl⟩) | (go_at_call 65; exact Mix.calls_q (fmin_c _ _ _) ⟨_, rfl⟩)))); refine wpQuiet_nil ?_; intro nq)
  go_wp2
  go_ret
  exact ⟨ret_int (by simp [R.unionedArea, R.area, R.expand]), _, rfl⟩

theorem largestAxis_c (w : World) (r : R) (hs : r.small) :
    Calls Try.prog 49 #[.agg #[.int .i64 r.x0, .int .i64 r.y0, .int .i64 r.x1, .int .i64 r.y1]] w fun e w' => e = .returned (.int .i64 r.largestAxis) ∧ Mix.Ex w w' := by
  obtain ⟨x0, y0, x1, y1⟩ := r
  obtain ⟨⟨a1, a2⟩, ⟨a3, a4⟩, ⟨a5, a6⟩, ⟨a7, a8⟩⟩ := hs
  dsimp only at *
  by_cases h : x1 - x0 < y1 - y0
  · go_enter Try.func49, Try.ntmps49
    go_wp2
    go_ret
    exact ⟨ret_int (by rw [R.largestAxis, if_pos h]; rfl), (Mix.Ex.refl _).alloc _⟩
  · go_enter Try.func49, Try.ntmps49
    go_wp2
    go_ret
    exact ⟨ret_int (by rw [R.largestAxis, if_neg (by dsimp only; omega)]; rfl), (Mix.Ex.refl _).alloc _⟩

set_option maxRecDepth 100000 in
theorem boxDist_c (w : World) (b o c q : Nat) (r s : R) (hr : RectAt w b o r) (hs : RectAt w c q s) (hrs : r.small) (hss : s.small) :
    Calls Try.prog 54 #[.pointer (some ⟨b, o, none⟩), .pointer (some ⟨c, q, none⟩)] w fun e w' => e = .returned (.int .i64 (r.boxDist s)) ∧ ∃ n, w' = w.drewN n := by
  obtain ⟨x0, y0, x1, y1⟩ := r
  obtain ⟨u0, v0, u1, v1⟩ := s
  obtain ⟨h0, h1, h2, h3⟩ := hr
  obtain ⟨k0, k1, k2, k3⟩ := hs
  obtain ⟨⟨a1, a2⟩, ⟨a3, a4⟩, ⟨a5, a6⟩, ⟨a7, a8⟩⟩ := hrs
  obtain ⟨⟨b1, b2⟩, ⟨b3, b4⟩, ⟨b5, b6⟩, ⟨b7, b8⟩⟩ := hss
  dsimp only at *
  obtain ⟨l11, l12⟩ : -32768 ≤ max x0 u0 ∧ max x0 u0 ≤ 32767 := by omega
  obtain ⟨l21, l22⟩ : -32768 ≤ min x1 u1 ∧ min x1 u1 ≤ 32767 := by omega
  obtain ⟨l31, l32⟩ : -32768 ≤ max y0 v0 ∧ max y0 v0 ≤ 32767 := by omega
  obtain ⟨l41, l42⟩ : -32768 ≤ min y1 v1 ∧ min y1 v1 ≤ 32767 := by omega
  obtain ⟨m1, m2⟩ := mul_bound (a := max x0 u0 - min x1 u1) (b := max x0 u0 - min x1 u1) (by omega) (by omega)
  obtain ⟨m3, m4⟩ := mul_bound (a := max y0 v0 - min y1 v1) (b := max y0 v0 - min y1 v1) (by omega) (by omega)
  by_cases g1 : 0 < max x0 u0 - min x1 u1
  all_goals by_cases g2 : 0 < max y0 v0 - min y1 v1
  all_goals
    go_enter Try.func54, Try.ntmps54
    go_wp2
    (refine Mix.wp_region_dr (by kernel_rfl) (by kernel_rfl) ?_; (repeat (go_big_quiet_step (first | (go_at_call 64; exact Mix.calls_q (fmax_c _ _ _) ⟨_, rfl⟩) | (go_at_call 65; exact Mix.calls_q (fmin_c _ _ _) ⟨_, rfl⟩)))); refine wpQuiet_nil ?_; intro nq)
    go_wp2
    (refine Mix.wp_region_dr (by kernel_rfl) (by kernel_rfl) ?_; (repeat (go_big_quiet_step (first | (go_at_call 64; exact Mix.calls_q (fmax_c _ _ _) ⟨_, rfl⟩) | (go_at_call 65; exact Mix.calls_q (fmin_c _ _ _) ⟨_, rfl⟩)))); refine wpQuiet_nil ?_; intro nq)
    go_wp2
    go_ret
    refine ⟨ret_int ?_, by repeat (first | exact Mix.Dr.refl _ | apply Mix.Dr.drewN)⟩
    simp only [R.boxDist, R.gap]
    first | rw [show max 0 (max x0 u0 - min x1 u1) = max x0 u0 - min x1 u1 by omega] | rw [show max 0 (max x0 u0 - min x1 u1) = 0 by omega]
    first | rw [show max 0 (max y0 v0 - min y1 v1) = max y0 v0 - min y1 v1 by omega] | rw [show max 0 (max y0 v0 - min y1 v1) = 0 by omega]
    try simp

theorem boxRect_c (w : World) (r : R) :
    Calls Try.prog 47 #[.agg #[.int .i64 r.x0, .int .i64 r.y0, .int .i64 r.x1, .int .i64 r.y1]] w fun e w' => ∃ b, e = .returned (.pointer (some ⟨b, 0, none⟩)) ∧ w.heap.size ≤ b ∧ RectAt w' b 0 r ∧ OpenAt w' b 0 ∧ Mix.Ex w w' := by
  obtain ⟨x0, y0, x1, y1⟩ := r
  dsimp only at *
  go_enter Try.func47, Try.ntmps47
  go_wp2
  go_ret
  refine ⟨w.heap.size + 1, rfl, by omega, ?_, ?_, ((Mix.Ex.refl _).alloc _).alloc _⟩
  · refine ⟨?_, ?_, ?_, ?_⟩ <;> go_simp
  · refine ⟨?_, ?_, ?_, ?_⟩ <;> go_simp

end Go.Proofs.Ytenokcfpmfoekaa
