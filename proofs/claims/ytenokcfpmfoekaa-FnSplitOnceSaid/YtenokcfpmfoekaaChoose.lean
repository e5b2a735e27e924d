/- The contract of 'chooseLeastEnlargement'. -/
import Derived.Test.YtenokcfpmfoekaaNodeB
import Derived.Test.YtenokcfpmfoekaaBd
set_option linter.unusedSimpArgs false
set_option linter.unusedVariables false
namespace Go.Proofs.Ytenokcfpmfoekaa
open Go.RowKit Go.Bx

theorem area_bound {r : R} (h : r.small) : -4294836225 ≤ r.area ∧ r.area ≤ 4294836225 := by
  obtain ⟨⟨a1, a2⟩, ⟨a3, a4⟩, ⟨a5, a6⟩, ⟨a7, a8⟩⟩ := h
  exact mul_bound ⟨by omega, by omega⟩ ⟨by omega, by omega⟩
theorem uarea_bound {r s : R} (h : r.small) (k : s.small) : -4294836225 ≤ r.unionedArea s ∧ r.unionedArea s ≤ 4294836225 := by
  have := area_bound (R.small_expand h k)
  exact this

set_option maxRecDepth 100000 in
set_option maxHeartbeats 3200000 in
theorem choose_c (w : World) (p c q : Nat) (N : Nd) (n : Nat) (s : R) (hN : NodeAt w p N) (hn : N.cnt = n) (h64 : n ≤ 64) (hs : RectAt w c q s) (hss : s.small) (hsm : ∀ i, i < n → (N.rc i).small) :
    Calls Try.prog 60 #[.pointer (some ⟨p, 0, none⟩), .pointer (some ⟨c, q, none⟩)] w fun e w' => e = .returned (.int .i64 (chooseSt N.rc s n).1) ∧ ∃ d, w' = w.drewN d := by
  have hc := hN.cell2
  rw [hn] at hc
  have n0 : (0 : Int) ≤ (n : Int) := by omega
  have n1 : (n : Int) ≤ 64 := by omega
  go_enter Try.func60, Try.ntmps60
  go_wp2_with fail
  (refine Mix.wp_region_dr (by kernel_rfl) (by kernel_rfl) ?_; (repeat (go_big_quiet_step (fail))); refine wpQuiet_nil ?_; intro nq)
  go_wp2_with fail
  go_loopw [6, 7, 8, 9] (fun j e a i wr => ∃ (k : Nat) (jj ee aa : Int), k ≤ n ∧ i = .int .i64 k ∧ chooseSt N.rc s k = (jj, ee, aa) ∧ j = .int .i64 jj ∧ e = .int .i64 ee ∧ a = .int .i64 aa ∧ ∃ d, wr = w.drewN d) (fun _ _ _ i _ => n - (intOf i).toNat)
  case atStart => exact ⟨0, -1, 0, 0, by omega, rfl, rfl, rfl, rfl, rfl, _, rfl⟩
  case round =>
    obtain ⟨k, jj, ee, aa, hk, rfl, hst, rfl, rfl, rfl, d, rfl⟩ := hrel
    have HST := Lib.hid hst
    clear hst
    by_cases hlt : k < n
    case neg =>
      have hkn : k = n := by omega
      subst hkn
      go_wp2_with fail
      go_ret
      rw [HST.out]
      exact ⟨rfl, _, rfl⟩
    have hr := rectAt_node hN (i := k) (by omega)
    have hb1 := uarea_bound (hsm k hlt) hss
    have hb2 := area_bound (hsm k hlt)
    have hsk := hsm k hlt
    go_wp2_with fail
    refine (unionedArea_c (w.drewN _) p (3 + k * 4) c q (N.rc k) s (hr.of_dr _) (hs.of_dr _) hsk hss).mono ?_
    rintro e w1 ⟨rfl, d1, rfl⟩
    go_wp2_with fail
    refine (area_c (w.drewN _) p (3 + k * 4) (N.rc k) (hr.of_dr _) hsk).mono ?_
    rintro e w1 ⟨rfl, d2, rfl⟩
    generalize hu : (N.rc k).unionedArea s = u at hb1 ⊢
    generalize hv : (N.rc k).area = v at hb2 ⊢
    have HU := Lib.hid hu
    have HV := Lib.hid hv
    clear hu hv
    go_wp2_with fail
    all_goals
      clear hr hsk hc hs hsm hss hN
      go_roundw
      case measure => simp [intOf]; omega
      case rel =>
        first
        | exact ⟨k + 1, k, u - v, v, by omega, by go_num, choose_yes HST.out HU.out HV.out (by (try simp only [beq_iff_eq, beq_eq_false_iff_ne, Bool.not_eq_true', Bool.not_eq_false', decide_eq_true_eq, decide_eq_false_iff_not, ne_eq] at *); omega), rfl, rfl, rfl, _, rfl⟩
        | exact ⟨k + 1, jj, ee, aa, by omega, by go_num, choose_no HST.out HU.out HV.out (by (try simp only [beq_iff_eq, beq_eq_false_iff_ne, Bool.not_eq_true', Bool.not_eq_false', decide_eq_true_eq, decide_eq_false_iff_not, ne_eq] at *); omega), rfl, rfl, rfl, _, rfl⟩
end Go.Proofs.Ytenokcfpmfoekaa
