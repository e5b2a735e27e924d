/- The contract of 'qsort'. -/
import Derived.Test.YtenokcfpmfoekaaSwapE
import Derived.Test.YtenokcfpmfoekaaSortQ0
set_option linter.unusedSimpArgs false
set_option linter.unusedVariables false
namespace Go
namespace Bx
end Bx
end Go
namespace Go.Proofs.Ytenokcfpmfoekaa
open Go.RowKit Go.Bx
theorem Fit.qs {b : Bool} (K : R × Value → Int) (fu : Nat) (E : Ent) (s m : Nat) (h : Fit b (fE E)) : Fit b (fE (qs K fu E s m)) := qs_ind (fun E => Fit b (fE E)) (fun E i j h => Fit.swapE h i j) K fu E s m h
theorem cell_rcell {w : World} {p : Nat} {N : Nd} (h : NodeAt w p N) {i j : Nat} (hi : i < 64) (hj : j < 4) : w.cell? ⟨p, 3 + i * 4 + j, none⟩ = some (.int .i64 (rcell (N.rc i) j)) := by
  have hl := h.lt
  rw [← h.self, World.cell_putN _ _ _ _ hl (by omega)]
  exact congrArg some (ndCell_rc N i j hi hj)

set_option maxRecDepth 100000 in
set_option maxHeartbeats 6400000 in
theorem qsort_false_false (w : World) (p : Nat) (N : Nd) (a : Nat) (ha : a ≤ 1) (hp : p < w.heap.size) (hq : N.q < w.heap.size) (hpq : p ≠ N.q) :
    ∀ (fu s m e : Nat) (E : Ent) (d : Nat), e = s + m → m ≤ fu → s + m ≤ 64 → Fit N.leaf (fE E) →
    Calls Try.prog 67 #[.pointer (some ⟨p, 0, none⟩), .int .i64 s, .int .i64 e, .int .i64 a, .bool false, .bool false] ((w.putE p N (elT N.leaf) E).drewN d)
      fun e w' => e = .returned (.tuple #[]) ∧ ∃ d, w' = (w.putE p N (elT N.leaf) (qs (keyK a false false) fu E s m)).drewN d := by
  intro fu
  induction fu with
  | zero =>
    intro s m e E d he hm h64 hf
    obtain rfl : m = 0 := by omega
    have i1 : (e : Int) - s = 0 := by omega
    clear he
    go_enter Try.func67, Try.ntmps67
    go_wp2_with fail
    refine bodyPost_ret (results_none rfl _ _ _) rfl ?_
    exact ⟨rfl, _, rfl⟩
  | succ fu ih =>
    intro s m e E d he hm h64 hf
    have i1 : (e : Int) - s = m := by omega
    by_cases hm2 : m < 2
    case pos =>
      clear he
      rw [qs_small _ _ _ _ _ hm2]
      go_enter Try.func67, Try.ntmps67
      go_wp2_with fail
      refine bodyPost_ret (results_none rfl _ _ _) rfl ?_
      exact ⟨rfl, _, rfl⟩
    obtain ⟨r, hr⟩ : ∃ r, m = r + 1 := ⟨m - 1, by omega⟩
    obtain ⟨h, hh⟩ : ∃ h, m / 2 = h := ⟨_, rfl⟩
    obtain ⟨x, hx⟩ : ∃ x, s + h = x := ⟨_, rfl⟩
    obtain ⟨y, hy⟩ : ∃ y, s + r = y := ⟨_, rfl⟩
    have i2 : (m : Int) - 1 = r := by omega
    have i3 : (m : Int) / 2 = h := by omega
    have i4 : (s : Int) + h = x := by omega
    have i5 : (s : Int) + r = y := by omega
    have b1 : x < 64 := by omega
    have b2 : y < 64 := by omega
    have b3 : (s : Int) ≤ e := by omega
    have b4 : (e : Int) ≤ 64 := by omega
    have b5 : e - s = m := by omega
    have HE := Lib.hid he
    have HR := Lib.hid hr
    have HH := Lib.hid hh
    have HX := Lib.hid hx
    have HY := Lib.hid hy
    have hm3 : ¬ (m : Int) < 2 := by omega
    clear he hr hh hx hy
    go_enter Try.func67, Try.ntmps67
    go_wp2_with fail
    refine (swapE_c w p N E x y d hp hq hpq hf b1 b2).mono ?_
    rintro e' w1 ⟨rfl, d1, rfl⟩
    have hf1 : Fit N.leaf (fE (swapF E x y)) := Fit.swapE hf x y
    generalize hE1 : swapF E x y = E1 at hf1 ⊢
    have HE1 := Lib.hid hE1
    clear hE1
    go_wp2_with fail
    go_loopw [13, 17] (fun l i wr => ∃ (k lf : Nat) (F : Ent), k ≤ m ∧ i = .int .i64 k ∧ l = .int .i64 lf ∧ partSt (keyK a false false) s r E1 k = (F, lf) ∧ Fit N.leaf (fE F) ∧ ∃ d, wr = (w.putE p N (elT N.leaf) F).drewN d) (fun _ i _ => m - (intOf i).toNat)
    case atStart => exact ⟨0, 0, E1, by omega, rfl, rfl, rfl, hf1, _, rfl⟩
    case round =>
      obtain ⟨k, lf, F, hk, rfl, rfl, hpt, hfF, d2, rfl⟩ := hrel
      have hle := part_le hpt
      have HPT := Lib.hid hpt
      clear hpt
      by_cases hlt : k < m
      case neg =>
        have hkm : k = m := by omega
        obtain ⟨z, hz⟩ : ∃ z, s + lf = z := ⟨_, rfl⟩
        have hlr : lf ≤ r := by
          have h1 := HPT.out
          rw [hkm, HR.out] at h1
          exact part_le_r h1
        obtain ⟨z1, hz1⟩ : ∃ z1, z + 1 = z1 := ⟨_, rfl⟩
        have i6 : (s : Int) + lf = z := by omega
        have i7 : (z : Int) + 1 = z1 := by omega
        have HZ := Lib.hid hz
        have HZ1 := Lib.hid hz1
        have b6 : z < 64 := by have := HY.out; omega
        clear hz hz1
        subst hkm
        go_wp2_with fail
        refine (swapE_c w p N F z y d2 hp hq hpq hfF b6 b2).mono ?_
        rintro e' w1 ⟨rfl, d3, rfl⟩
        have hf2 : Fit N.leaf (fE (swapF F z y)) := Fit.swapE hfF z y
        have hqs : qs (keyK a false false) (fu + 1) E s k = qs (keyK a false false) fu (qs (keyK a false false) fu (swapF F z y) s lf) z1 (r - lf) := by
          have h1 := HPT.out
          have h2 := HR.out
          subst h2
          rw [← HE1.out, ← HX.out, ← HY.out, ← HH.out] at h1
          rw [qs_step _ _ _ _ _ _ _ hm2 h1, HZ.out, HY.out, HZ1.out]
        generalize swapF F z y = F2 at hf2 hqs ⊢
        have hf3 := Fit.qs (keyK a false false) fu F2 s lf hf2
        obtain ⟨F3, hF3⟩ : ∃ F3, qs (keyK a false false) fu F2 s lf = F3 := ⟨_, rfl⟩
        rw [hF3] at hqs hf3
        have HF3 := Lib.hid hF3
        have HQS := Lib.hid hqs
        clear hF3 hqs
        go_wp2_with fail
        refine (ih s lf z F2 d3 HZ.out.symm (by have := HR.out; omega) (by have := HZ.out; omega) hf2).mono ?_
        rintro e' w1 ⟨rfl, d4, rfl⟩
        rw [HF3.out]
        go_wp2_with fail
        refine (ih z1 (r - lf) e F3 d4 (by have := HE.out; have := HR.out; have := HZ.out; have := HZ1.out; omega) (by have := HR.out; omega) (by have := HE.out; have := HR.out; have := HZ.out; have := HZ1.out; omega) hf3).mono ?_
        rintro e' w1 ⟨rfl, d5, rfl⟩
        go_wp2_with fail
        go_end0
        exact ⟨rfl, _, by rw [HQS.out]⟩
      have hsk : s + k < 64 := by omega
      have hNF := NodeAt.putE w p N (elT N.leaf) F hp hpq.symm
      have cA := cell_rcell hNF (i := s + k) (j := 0 + a) (by omega) (by omega)
      have cB := cell_rcell hNF (i := s + r) (j := 0 + a) (by have := HY.out; omega) (by omega)
      generalize hu : rcell ((ndE N F).rc (s + k)) (0 + a) = u at cA
      generalize hv : rcell ((ndE N F).rc (s + r)) (0 + a) = v at cB
      rw [show 3 + (s + k) * 4 + (0 + a) = 3 + s * 4 + k * 4 + 0 + a by omega] at cA
      rw [show 3 + (s + r) * 4 + (0 + a) = 3 + s * 4 + r * 4 + 0 + a by omega] at cB
      (try simp only [Nat.add_zero, Nat.zero_add] at cA cB)
      have a1 : (0 : Int) ≤ a := by omega
      have a2 : (a : Int) < 2 := by omega
      have r1 : r < m := by have := HR.out; omega
      have HU := Lib.hid hu
      have HV := Lib.hid hv
      obtain ⟨xk, hxk⟩ : ∃ xk, s + k = xk := ⟨_, rfl⟩
      obtain ⟨yl, hyl⟩ : ∃ yl, s + lf = yl := ⟨_, rfl⟩
      have i6 : (s : Int) + k = xk := by omega
      have i7 : (s : Int) + lf = yl := by omega
      have b6 : xk < 64 := by omega
      have b7 : yl < 64 := by omega
      have HXK := Lib.hid hxk
      have HYL := Lib.hid hyl
      clear hu hv hxk hyl
      go_wp2_with fail
      (refine Mix.wp_region_dr (by kernel_rfl) (by kernel_rfl) ?_; (repeat (go_big_quiet_step (fail))); refine wpQuiet_nil ?_; intro nq)
      go_wp2_with fail
      · have hkk : keyK a false false (F (s + k)) < keyK a false false (F (s + r)) := by
          have h1 : rcell (F (s + k)).1 (0 + a) = u := HU.out
          have h2 : rcell (F (s + r)).1 (0 + a) = v := HV.out
          show (rcell (F (s + k)).1 (0 + a)) < (rcell (F (s + r)).1 (0 + a))
          rw [h1, h2]
          omega
        have hp1 := part_yes HPT.out hkk
        rw [HXK.out, HYL.out] at hp1
        clear cA cB hkk
        refine (swapE_c w p N F xk yl _ hp hq hpq hfF b6 b7).mono ?_
        rintro e' w1 ⟨rfl, d3, rfl⟩
        have hf2 : Fit N.leaf (fE (swapF F xk yl)) := Fit.swapE hfF xk yl
        generalize swapF F xk yl = F2 at hf2 hp1 ⊢
        have HP1 := Lib.hid hp1
        clear hp1
        go_wp2_with fail
        go_roundw
        case rel => exact ⟨k + 1, lf + 1, F2, by omega, by go_num, by go_num, HP1.out, hf2, _, rfl⟩
        case measure => simp [intOf]; omega
      · have hkk : ¬ keyK a false false (F (s + k)) < keyK a false false (F (s + r)) := by
          have h1 : rcell (F (s + k)).1 (0 + a) = u := HU.out
          have h2 : rcell (F (s + r)).1 (0 + a) = v := HV.out
          show ¬ (rcell (F (s + k)).1 (0 + a)) < (rcell (F (s + r)).1 (0 + a))
          rw [h1, h2]
          omega
        have hp1 := part_no HPT.out hkk
        have HP1 := Lib.hid hp1
        clear hp1 hkk cA cB
        go_roundw
        case rel => exact ⟨k + 1, lf, F, by omega, by go_num, rfl, HP1.out, hfF, _, rfl⟩
        case measure => simp [intOf]; omega

set_option maxRecDepth 100000 in
set_option maxHeartbeats 6400000 in
theorem qsort_false_true (w : World) (p : Nat) (N : Nd) (a : Nat) (ha : a ≤ 1) (hp : p < w.heap.size) (hq : N.q < w.heap.size) (hpq : p ≠ N.q) :
    ∀ (fu s m e : Nat) (E : Ent) (d : Nat), e = s + m → m ≤ fu → s + m ≤ 64 → Fit N.leaf (fE E) →
    Calls Try.prog 67 #[.pointer (some ⟨p, 0, none⟩), .int .i64 s, .int .i64 e, .int .i64 a, .bool false, .bool true] ((w.putE p N (elT N.leaf) E).drewN d)
      fun e w' => e = .returned (.tuple #[]) ∧ ∃ d, w' = (w.putE p N (elT N.leaf) (qs (keyK a false true) fu E s m)).drewN d := by
  intro fu
  induction fu with
  | zero =>
    intro s m e E d he hm h64 hf
    obtain rfl : m = 0 := by omega
    have i1 : (e : Int) - s = 0 := by omega
    clear he
    go_enter Try.func67, Try.ntmps67
    go_wp2_with fail
    refine bodyPost_ret (results_none rfl _ _ _) rfl ?_
    exact ⟨rfl, _, rfl⟩
  | succ fu ih =>
    intro s m e E d he hm h64 hf
    have i1 : (e : Int) - s = m := by omega
    by_cases hm2 : m < 2
    case pos =>
      clear he
      rw [qs_small _ _ _ _ _ hm2]
      go_enter Try.func67, Try.ntmps67
      go_wp2_with fail
      refine bodyPost_ret (results_none rfl _ _ _) rfl ?_
      exact ⟨rfl, _, rfl⟩
    obtain ⟨r, hr⟩ : ∃ r, m = r + 1 := ⟨m - 1, by omega⟩
    obtain ⟨h, hh⟩ : ∃ h, m / 2 = h := ⟨_, rfl⟩
    obtain ⟨x, hx⟩ : ∃ x, s + h = x := ⟨_, rfl⟩
    obtain ⟨y, hy⟩ : ∃ y, s + r = y := ⟨_, rfl⟩
    have i2 : (m : Int) - 1 = r := by omega
    have i3 : (m : Int) / 2 = h := by omega
    have i4 : (s : Int) + h = x := by omega
    have i5 : (s : Int) + r = y := by omega
    have b1 : x < 64 := by omega
    have b2 : y < 64 := by omega
    have b3 : (s : Int) ≤ e := by omega
    have b4 : (e : Int) ≤ 64 := by omega
    have b5 : e - s = m := by omega
    have HE := Lib.hid he
    have HR := Lib.hid hr
    have HH := Lib.hid hh
    have HX := Lib.hid hx
    have HY := Lib.hid hy
    have hm3 : ¬ (m : Int) < 2 := by omega
    clear he hr hh hx hy
    go_enter Try.func67, Try.ntmps67
    go_wp2_with fail
    refine (swapE_c w p N E x y d hp hq hpq hf b1 b2).mono ?_
    rintro e' w1 ⟨rfl, d1, rfl⟩
    have hf1 : Fit N.leaf (fE (swapF E x y)) := Fit.swapE hf x y
    generalize hE1 : swapF E x y = E1 at hf1 ⊢
    have HE1 := Lib.hid hE1
    clear hE1
    go_wp2_with fail
    go_loopw [13, 18] (fun l i wr => ∃ (k lf : Nat) (F : Ent), k ≤ m ∧ i = .int .i64 k ∧ l = .int .i64 lf ∧ partSt (keyK a false true) s r E1 k = (F, lf) ∧ Fit N.leaf (fE F) ∧ ∃ d, wr = (w.putE p N (elT N.leaf) F).drewN d) (fun _ i _ => m - (intOf i).toNat)
    case atStart => exact ⟨0, 0, E1, by omega, rfl, rfl, rfl, hf1, _, rfl⟩
    case round =>
      obtain ⟨k, lf, F, hk, rfl, rfl, hpt, hfF, d2, rfl⟩ := hrel
      have hle := part_le hpt
      have HPT := Lib.hid hpt
      clear hpt
      by_cases hlt : k < m
      case neg =>
        have hkm : k = m := by omega
        obtain ⟨z, hz⟩ : ∃ z, s + lf = z := ⟨_, rfl⟩
        have hlr : lf ≤ r := by
          have h1 := HPT.out
          rw [hkm, HR.out] at h1
          exact part_le_r h1
        obtain ⟨z1, hz1⟩ : ∃ z1, z + 1 = z1 := ⟨_, rfl⟩
        have i6 : (s : Int) + lf = z := by omega
        have i7 : (z : Int) + 1 = z1 := by omega
        have HZ := Lib.hid hz
        have HZ1 := Lib.hid hz1
        have b6 : z < 64 := by have := HY.out; omega
        clear hz hz1
        subst hkm
        go_wp2_with fail
        refine (swapE_c w p N F z y d2 hp hq hpq hfF b6 b2).mono ?_
        rintro e' w1 ⟨rfl, d3, rfl⟩
        have hf2 : Fit N.leaf (fE (swapF F z y)) := Fit.swapE hfF z y
        have hqs : qs (keyK a false true) (fu + 1) E s k = qs (keyK a false true) fu (qs (keyK a false true) fu (swapF F z y) s lf) z1 (r - lf) := by
          have h1 := HPT.out
          have h2 := HR.out
          subst h2
          rw [← HE1.out, ← HX.out, ← HY.out, ← HH.out] at h1
          rw [qs_step _ _ _ _ _ _ _ hm2 h1, HZ.out, HY.out, HZ1.out]
        generalize swapF F z y = F2 at hf2 hqs ⊢
        have hf3 := Fit.qs (keyK a false true) fu F2 s lf hf2
        obtain ⟨F3, hF3⟩ : ∃ F3, qs (keyK a false true) fu F2 s lf = F3 := ⟨_, rfl⟩
        rw [hF3] at hqs hf3
        have HF3 := Lib.hid hF3
        have HQS := Lib.hid hqs
        clear hF3 hqs
        go_wp2_with fail
        refine (ih s lf z F2 d3 HZ.out.symm (by have := HR.out; omega) (by have := HZ.out; omega) hf2).mono ?_
        rintro e' w1 ⟨rfl, d4, rfl⟩
        rw [HF3.out]
        go_wp2_with fail
        refine (ih z1 (r - lf) e F3 d4 (by have := HE.out; have := HR.out; have := HZ.out; have := HZ1.out; omega) (by have := HR.out; omega) (by have := HE.out; have := HR.out; have := HZ.out; have := HZ1.out; omega) hf3).mono ?_
        rintro e' w1 ⟨rfl, d5, rfl⟩
        go_wp2_with fail
        go_end0
        exact ⟨rfl, _, by rw [HQS.out]⟩
      have hsk : s + k < 64 := by omega
      have hNF := NodeAt.putE w p N (elT N.leaf) F hp hpq.symm
      have cA := cell_rcell hNF (i := s + k) (j := 2 + a) (by omega) (by omega)
      have cB := cell_rcell hNF (i := s + r) (j := 2 + a) (by have := HY.out; omega) (by omega)
      generalize hu : rcell ((ndE N F).rc (s + k)) (2 + a) = u at cA
      generalize hv : rcell ((ndE N F).rc (s + r)) (2 + a) = v at cB
      rw [show 3 + (s + k) * 4 + (2 + a) = 3 + s * 4 + k * 4 + 2 + a by omega] at cA
      rw [show 3 + (s + r) * 4 + (2 + a) = 3 + s * 4 + r * 4 + 2 + a by omega] at cB
      (try simp only [Nat.add_zero, Nat.zero_add] at cA cB)
      have a1 : (0 : Int) ≤ a := by omega
      have a2 : (a : Int) < 2 := by omega
      have r1 : r < m := by have := HR.out; omega
      have HU := Lib.hid hu
      have HV := Lib.hid hv
      obtain ⟨xk, hxk⟩ : ∃ xk, s + k = xk := ⟨_, rfl⟩
      obtain ⟨yl, hyl⟩ : ∃ yl, s + lf = yl := ⟨_, rfl⟩
      have i6 : (s : Int) + k = xk := by omega
      have i7 : (s : Int) + lf = yl := by omega
      have b6 : xk < 64 := by omega
      have b7 : yl < 64 := by omega
      have HXK := Lib.hid hxk
      have HYL := Lib.hid hyl
      clear hu hv hxk hyl
      go_wp2_with fail
      (refine Mix.wp_region_dr (by kernel_rfl) (by kernel_rfl) ?_; (repeat (go_big_quiet_step (fail))); refine wpQuiet_nil ?_; intro nq)
      go_wp2_with fail
      · have hkk : keyK a false true (F (s + k)) < keyK a false true (F (s + r)) := by
          have h1 : rcell (F (s + k)).1 (2 + a) = u := HU.out
          have h2 : rcell (F (s + r)).1 (2 + a) = v := HV.out
          show (rcell (F (s + k)).1 (2 + a)) < (rcell (F (s + r)).1 (2 + a))
          rw [h1, h2]
          omega
        have hp1 := part_yes HPT.out hkk
        rw [HXK.out, HYL.out] at hp1
        clear cA cB hkk
        refine (swapE_c w p N F xk yl _ hp hq hpq hfF b6 b7).mono ?_
        rintro e' w1 ⟨rfl, d3, rfl⟩
        have hf2 : Fit N.leaf (fE (swapF F xk yl)) := Fit.swapE hfF xk yl
        generalize swapF F xk yl = F2 at hf2 hp1 ⊢
        have HP1 := Lib.hid hp1
        clear hp1
        go_wp2_with fail
        go_roundw
        case rel => exact ⟨k + 1, lf + 1, F2, by omega, by go_num, by go_num, HP1.out, hf2, _, rfl⟩
        case measure => simp [intOf]; omega
      · have hkk : ¬ keyK a false true (F (s + k)) < keyK a false true (F (s + r)) := by
          have h1 : rcell (F (s + k)).1 (2 + a) = u := HU.out
          have h2 : rcell (F (s + r)).1 (2 + a) = v := HV.out
          show ¬ (rcell (F (s + k)).1 (2 + a)) < (rcell (F (s + r)).1 (2 + a))
          rw [h1, h2]
          omega
        have hp1 := part_no HPT.out hkk
        have HP1 := Lib.hid hp1
        clear hp1 hkk cA cB
        go_roundw
        case rel => exact ⟨k + 1, lf, F, by omega, by go_num, rfl, HP1.out, hfF, _, rfl⟩
        case measure => simp [intOf]; omega

set_option maxRecDepth 100000 in
set_option maxHeartbeats 6400000 in
theorem qsort_true_false (w : World) (p : Nat) (N : Nd) (a : Nat) (ha : a ≤ 1) (hp : p < w.heap.size) (hq : N.q < w.heap.size) (hpq : p ≠ N.q) :
    ∀ (fu s m e : Nat) (E : Ent) (d : Nat), e = s + m → m ≤ fu → s + m ≤ 64 → Fit N.leaf (fE E) →
    Calls Try.prog 67 #[.pointer (some ⟨p, 0, none⟩), .int .i64 s, .int .i64 e, .int .i64 a, .bool true, .bool false] ((w.putE p N (elT N.leaf) E).drewN d)
      fun e w' => e = .returned (.tuple #[]) ∧ ∃ d, w' = (w.putE p N (elT N.leaf) (qs (keyK a true false) fu E s m)).drewN d := by
  intro fu
  induction fu with
  | zero =>
    intro s m e E d he hm h64 hf
    obtain rfl : m = 0 := by omega
    have i1 : (e : Int) - s = 0 := by omega
    clear he
    go_enter Try.func67, Try.ntmps67
    go_wp2_with fail
    refine bodyPost_ret (results_none rfl _ _ _) rfl ?_
    exact ⟨rfl, _, rfl⟩
  | succ fu ih =>
    intro s m e E d he hm h64 hf
    have i1 : (e : Int) - s = m := by omega
    by_cases hm2 : m < 2
    case pos =>
      clear he
      rw [qs_small _ _ _ _ _ hm2]
      go_enter Try.func67, Try.ntmps67
      go_wp2_with fail
      refine bodyPost_ret (results_none rfl _ _ _) rfl ?_
      exact ⟨rfl, _, rfl⟩
    obtain ⟨r, hr⟩ : ∃ r, m = r + 1 := ⟨m - 1, by omega⟩
    obtain ⟨h, hh⟩ : ∃ h, m / 2 = h := ⟨_, rfl⟩
    obtain ⟨x, hx⟩ : ∃ x, s + h = x := ⟨_, rfl⟩
    obtain ⟨y, hy⟩ : ∃ y, s + r = y := ⟨_, rfl⟩
    have i2 : (m : Int) - 1 = r := by omega
    have i3 : (m : Int) / 2 = h := by omega
    have i4 : (s : Int) + h = x := by omega
    have i5 : (s : Int) + r = y := by omega
    have b1 : x < 64 := by omega
    have b2 : y < 64 := by omega
    have b3 : (s : Int) ≤ e := by omega
    have b4 : (e : Int) ≤ 64 := by omega
    have b5 : e - s = m := by omega
    have HE := Lib.hid he
    have HR := Lib.hid hr
    have HH := Lib.hid hh
    have HX := Lib.hid hx
    have HY := Lib.hid hy
    have hm3 : ¬ (m : Int) < 2 := by omega
    clear he hr hh hx hy
    go_enter Try.func67, Try.ntmps67
    go_wp2_with fail
    refine (swapE_c w p N E x y d hp hq hpq hf b1 b2).mono ?_
    rintro e' w1 ⟨rfl, d1, rfl⟩
    have hf1 : Fit N.leaf (fE (swapF E x y)) := Fit.swapE hf x y
    generalize hE1 : swapF E x y = E1 at hf1 ⊢
    have HE1 := Lib.hid hE1
    clear hE1
    go_wp2_with fail
    go_loopw [13, 19] (fun l i wr => ∃ (k lf : Nat) (F : Ent), k ≤ m ∧ i = .int .i64 k ∧ l = .int .i64 lf ∧ partSt (keyK a true false) s r E1 k = (F, lf) ∧ Fit N.leaf (fE F) ∧ ∃ d, wr = (w.putE p N (elT N.leaf) F).drewN d) (fun _ i _ => m - (intOf i).toNat)
    case atStart => exact ⟨0, 0, E1, by omega, rfl, rfl, rfl, hf1, _, rfl⟩
    case round =>
      obtain ⟨k, lf, F, hk, rfl, rfl, hpt, hfF, d2, rfl⟩ := hrel
      have hle := part_le hpt
      have HPT := Lib.hid hpt
      clear hpt
      by_cases hlt : k < m
      case neg =>
        have hkm : k = m := by omega
        obtain ⟨z, hz⟩ : ∃ z, s + lf = z := ⟨_, rfl⟩
        have hlr : lf ≤ r := by
          have h1 := HPT.out
          rw [hkm, HR.out] at h1
          exact part_le_r h1
        obtain ⟨z1, hz1⟩ : ∃ z1, z + 1 = z1 := ⟨_, rfl⟩
        have i6 : (s : Int) + lf = z := by omega
        have i7 : (z : Int) + 1 = z1 := by omega
        have HZ := Lib.hid hz
        have HZ1 := Lib.hid hz1
        have b6 : z < 64 := by have := HY.out; omega
        clear hz hz1
        subst hkm
        go_wp2_with fail
        refine (swapE_c w p N F z y d2 hp hq hpq hfF b6 b2).mono ?_
        rintro e' w1 ⟨rfl, d3, rfl⟩
        have hf2 : Fit N.leaf (fE (swapF F z y)) := Fit.swapE hfF z y
        have hqs : qs (keyK a true false) (fu + 1) E s k = qs (keyK a true false) fu (qs (keyK a true false) fu (swapF F z y) s lf) z1 (r - lf) := by
          have h1 := HPT.out
          have h2 := HR.out
          subst h2
          rw [← HE1.out, ← HX.out, ← HY.out, ← HH.out] at h1
          rw [qs_step _ _ _ _ _ _ _ hm2 h1, HZ.out, HY.out, HZ1.out]
        generalize swapF F z y = F2 at hf2 hqs ⊢
        have hf3 := Fit.qs (keyK a true false) fu F2 s lf hf2
        obtain ⟨F3, hF3⟩ : ∃ F3, qs (keyK a true false) fu F2 s lf = F3 := ⟨_, rfl⟩
        rw [hF3] at hqs hf3
        have HF3 := Lib.hid hF3
        have HQS := Lib.hid hqs
        clear hF3 hqs
        go_wp2_with fail
        refine (ih s lf z F2 d3 HZ.out.symm (by have := HR.out; omega) (by have := HZ.out; omega) hf2).mono ?_
        rintro e' w1 ⟨rfl, d4, rfl⟩
        rw [HF3.out]
        go_wp2_with fail
        refine (ih z1 (r - lf) e F3 d4 (by have := HE.out; have := HR.out; have := HZ.out; have := HZ1.out; omega) (by have := HR.out; omega) (by have := HE.out; have := HR.out; have := HZ.out; have := HZ1.out; omega) hf3).mono ?_
        rintro e' w1 ⟨rfl, d5, rfl⟩
        go_wp2_with fail
        go_end0
        exact ⟨rfl, _, by rw [HQS.out]⟩
      have hsk : s + k < 64 := by omega
      have hNF := NodeAt.putE w p N (elT N.leaf) F hp hpq.symm
      have cA := cell_rcell hNF (i := s + k) (j := 0 + a) (by omega) (by omega)
      have cB := cell_rcell hNF (i := s + r) (j := 0 + a) (by have := HY.out; omega) (by omega)
      generalize hu : rcell ((ndE N F).rc (s + k)) (0 + a) = u at cA
      generalize hv : rcell ((ndE N F).rc (s + r)) (0 + a) = v at cB
      rw [show 3 + (s + k) * 4 + (0 + a) = 3 + s * 4 + k * 4 + 0 + a by omega] at cA
      rw [show 3 + (s + r) * 4 + (0 + a) = 3 + s * 4 + r * 4 + 0 + a by omega] at cB
      (try simp only [Nat.add_zero, Nat.zero_add] at cA cB)
      have a1 : (0 : Int) ≤ a := by omega
      have a2 : (a : Int) < 2 := by omega
      have r1 : r < m := by have := HR.out; omega
      have HU := Lib.hid hu
      have HV := Lib.hid hv
      obtain ⟨xk, hxk⟩ : ∃ xk, s + k = xk := ⟨_, rfl⟩
      obtain ⟨yl, hyl⟩ : ∃ yl, s + lf = yl := ⟨_, rfl⟩
      have i6 : (s : Int) + k = xk := by omega
      have i7 : (s : Int) + lf = yl := by omega
      have b6 : xk < 64 := by omega
      have b7 : yl < 64 := by omega
      have HXK := Lib.hid hxk
      have HYL := Lib.hid hyl
      clear hu hv hxk hyl
      go_wp2_with fail
      (refine Mix.wp_region_dr (by kernel_rfl) (by kernel_rfl) ?_; (repeat (go_big_quiet_step (fail))); refine wpQuiet_nil ?_; intro nq)
      go_wp2_with fail
      · have hkk : keyK a true false (F (s + k)) < keyK a true false (F (s + r)) := by
          have h1 : rcell (F (s + k)).1 (0 + a) = u := HU.out
          have h2 : rcell (F (s + r)).1 (0 + a) = v := HV.out
          show - (rcell (F (s + k)).1 (0 + a)) < - (rcell (F (s + r)).1 (0 + a))
          rw [h1, h2]
          omega
        have hp1 := part_yes HPT.out hkk
        rw [HXK.out, HYL.out] at hp1
        clear cA cB hkk
        refine (swapE_c w p N F xk yl _ hp hq hpq hfF b6 b7).mono ?_
        rintro e' w1 ⟨rfl, d3, rfl⟩
        have hf2 : Fit N.leaf (fE (swapF F xk yl)) := Fit.swapE hfF xk yl
        generalize swapF F xk yl = F2 at hf2 hp1 ⊢
        have HP1 := Lib.hid hp1
        clear hp1
        go_wp2_with fail
        go_roundw
        case rel => exact ⟨k + 1, lf + 1, F2, by omega, by go_num, by go_num, HP1.out, hf2, _, rfl⟩
        case measure => simp [intOf]; omega
      · have hkk : ¬ keyK a true false (F (s + k)) < keyK a true false (F (s + r)) := by
          have h1 : rcell (F (s + k)).1 (0 + a) = u := HU.out
          have h2 : rcell (F (s + r)).1 (0 + a) = v := HV.out
          show ¬ - (rcell (F (s + k)).1 (0 + a)) < - (rcell (F (s + r)).1 (0 + a))
          rw [h1, h2]
          omega
        have hp1 := part_no HPT.out hkk
        have HP1 := Lib.hid hp1
        clear hp1 hkk cA cB
        go_roundw
        case rel => exact ⟨k + 1, lf, F, by omega, by go_num, rfl, HP1.out, hfF, _, rfl⟩
        case measure => simp [intOf]; omega

set_option maxRecDepth 100000 in
set_option maxHeartbeats 6400000 in
theorem qsort_true_true (w : World) (p : Nat) (N : Nd) (a : Nat) (ha : a ≤ 1) (hp : p < w.heap.size) (hq : N.q < w.heap.size) (hpq : p ≠ N.q) :
    ∀ (fu s m e : Nat) (E : Ent) (d : Nat), e = s + m → m ≤ fu → s + m ≤ 64 → Fit N.leaf (fE E) →
    Calls Try.prog 67 #[.pointer (some ⟨p, 0, none⟩), .int .i64 s, .int .i64 e, .int .i64 a, .bool true, .bool true] ((w.putE p N (elT N.leaf) E).drewN d)
      fun e w' => e = .returned (.tuple #[]) ∧ ∃ d, w' = (w.putE p N (elT N.leaf) (qs (keyK a true true) fu E s m)).drewN d := by
  intro fu
  induction fu with
  | zero =>
    intro s m e E d he hm h64 hf
    obtain rfl : m = 0 := by omega
    have i1 : (e : Int) - s = 0 := by omega
    clear he
    go_enter Try.func67, Try.ntmps67
    go_wp2_with fail
    refine bodyPost_ret (results_none rfl _ _ _) rfl ?_
    exact ⟨rfl, _, rfl⟩
  | succ fu ih =>
    intro s m e E d he hm h64 hf
    have i1 : (e : Int) - s = m := by omega
    by_cases hm2 : m < 2
    case pos =>
      clear he
      rw [qs_small _ _ _ _ _ hm2]
      go_enter Try.func67, Try.ntmps67
      go_wp2_with fail
      refine bodyPost_ret (results_none rfl _ _ _) rfl ?_
      exact ⟨rfl, _, rfl⟩
    obtain ⟨r, hr⟩ : ∃ r, m = r + 1 := ⟨m - 1, by omega⟩
    obtain ⟨h, hh⟩ : ∃ h, m / 2 = h := ⟨_, rfl⟩
    obtain ⟨x, hx⟩ : ∃ x, s + h = x := ⟨_, rfl⟩
    obtain ⟨y, hy⟩ : ∃ y, s + r = y := ⟨_, rfl⟩
    have i2 : (m : Int) - 1 = r := by omega
    have i3 : (m : Int) / 2 = h := by omega
    have i4 : (s : Int) + h = x := by omega
    have i5 : (s : Int) + r = y := by omega
    have b1 : x < 64 := by omega
    have b2 : y < 64 := by omega
    have b3 : (s : Int) ≤ e := by omega
    have b4 : (e : Int) ≤ 64 := by omega
    have b5 : e - s = m := by omega
    have HE := Lib.hid he
    have HR := Lib.hid hr
    have HH := Lib.hid hh
    have HX := Lib.hid hx
    have HY := Lib.hid hy
    have hm3 : ¬ (m : Int) < 2 := by omega
    clear he hr hh hx hy
    go_enter Try.func67, Try.ntmps67
    go_wp2_with fail
    refine (swapE_c w p N E x y d hp hq hpq hf b1 b2).mono ?_
    rintro e' w1 ⟨rfl, d1, rfl⟩
    have hf1 : Fit N.leaf (fE (swapF E x y)) := Fit.swapE hf x y
    generalize hE1 : swapF E x y = E1 at hf1 ⊢
    have HE1 := Lib.hid hE1
    clear hE1
    go_wp2_with fail
    go_loopw [13, 20] (fun l i wr => ∃ (k lf : Nat) (F : Ent), k ≤ m ∧ i = .int .i64 k ∧ l = .int .i64 lf ∧ partSt (keyK a true true) s r E1 k = (F, lf) ∧ Fit N.leaf (fE F) ∧ ∃ d, wr = (w.putE p N (elT N.leaf) F).drewN d) (fun _ i _ => m - (intOf i).toNat)
    case atStart => exact ⟨0, 0, E1, by omega, rfl, rfl, rfl, hf1, _, rfl⟩
    case round =>
      obtain ⟨k, lf, F, hk, rfl, rfl, hpt, hfF, d2, rfl⟩ := hrel
      have hle := part_le hpt
      have HPT := Lib.hid hpt
      clear hpt
      by_cases hlt : k < m
      case neg =>
        have hkm : k = m := by omega
        obtain ⟨z, hz⟩ : ∃ z, s + lf = z := ⟨_, rfl⟩
        have hlr : lf ≤ r := by
          have h1 := HPT.out
          rw [hkm, HR.out] at h1
          exact part_le_r h1
        obtain ⟨z1, hz1⟩ : ∃ z1, z + 1 = z1 := ⟨_, rfl⟩
        have i6 : (s : Int) + lf = z := by omega
        have i7 : (z : Int) + 1 = z1 := by omega
        have HZ := Lib.hid hz
        have HZ1 := Lib.hid hz1
        have b6 : z < 64 := by have := HY.out; omega
        clear hz hz1
        subst hkm
        go_wp2_with fail
        refine (swapE_c w p N F z y d2 hp hq hpq hfF b6 b2).mono ?_
        rintro e' w1 ⟨rfl, d3, rfl⟩
        have hf2 : Fit N.leaf (fE (swapF F z y)) := Fit.swapE hfF z y
        have hqs : qs (keyK a true true) (fu + 1) E s k = qs (keyK a true true) fu (qs (keyK a true true) fu (swapF F z y) s lf) z1 (r - lf) := by
          have h1 := HPT.out
          have h2 := HR.out
          subst h2
          rw [← HE1.out, ← HX.out, ← HY.out, ← HH.out] at h1
          rw [qs_step _ _ _ _ _ _ _ hm2 h1, HZ.out, HY.out, HZ1.out]
        generalize swapF F z y = F2 at hf2 hqs ⊢
        have hf3 := Fit.qs (keyK a true true) fu F2 s lf hf2
        obtain ⟨F3, hF3⟩ : ∃ F3, qs (keyK a true true) fu F2 s lf = F3 := ⟨_, rfl⟩
        rw [hF3] at hqs hf3
        have HF3 := Lib.hid hF3
        have HQS := Lib.hid hqs
        clear hF3 hqs
        go_wp2_with fail
        refine (ih s lf z F2 d3 HZ.out.symm (by have := HR.out; omega) (by have := HZ.out; omega) hf2).mono ?_
        rintro e' w1 ⟨rfl, d4, rfl⟩
        rw [HF3.out]
        go_wp2_with fail
        refine (ih z1 (r - lf) e F3 d4 (by have := HE.out; have := HR.out; have := HZ.out; have := HZ1.out; omega) (by have := HR.out; omega) (by have := HE.out; have := HR.out; have := HZ.out; have := HZ1.out; omega) hf3).mono ?_
        rintro e' w1 ⟨rfl, d5, rfl⟩
        go_wp2_with fail
        go_end0
        exact ⟨rfl, _, by rw [HQS.out]⟩
      have hsk : s + k < 64 := by omega
      have hNF := NodeAt.putE w p N (elT N.leaf) F hp hpq.symm
      have cA := cell_rcell hNF (i := s + k) (j := 2 + a) (by omega) (by omega)
      have cB := cell_rcell hNF (i := s + r) (j := 2 + a) (by have := HY.out; omega) (by omega)
      generalize hu : rcell ((ndE N F).rc (s + k)) (2 + a) = u at cA
      generalize hv : rcell ((ndE N F).rc (s + r)) (2 + a) = v at cB
      rw [show 3 + (s + k) * 4 + (2 + a) = 3 + s * 4 + k * 4 + 2 + a by omega] at cA
      rw [show 3 + (s + r) * 4 + (2 + a) = 3 + s * 4 + r * 4 + 2 + a by omega] at cB
      (try simp only [Nat.add_zero, Nat.zero_add] at cA cB)
      have a1 : (0 : Int) ≤ a := by omega
      have a2 : (a : Int) < 2 := by omega
      have r1 : r < m := by have := HR.out; omega
      have HU := Lib.hid hu
      have HV := Lib.hid hv
      obtain ⟨xk, hxk⟩ : ∃ xk, s + k = xk := ⟨_, rfl⟩
      obtain ⟨yl, hyl⟩ : ∃ yl, s + lf = yl := ⟨_, rfl⟩
      have i6 : (s : Int) + k = xk := by omega
      have i7 : (s : Int) + lf = yl := by omega
      have b6 : xk < 64 := by omega
      have b7 : yl < 64 := by omega
      have HXK := Lib.hid hxk
      have HYL := Lib.hid hyl
      clear hu hv hxk hyl
      go_wp2_with fail
      (refine Mix.wp_region_dr (by kernel_rfl) (by kernel_rfl) ?_; (repeat (go_big_quiet_step (fail))); refine wpQuiet_nil ?_; intro nq)
      go_wp2_with fail
      · have hkk : keyK a true true (F (s + k)) < keyK a true true (F (s + r)) := by
          have h1 : rcell (F (s + k)).1 (2 + a) = u := HU.out
          have h2 : rcell (F (s + r)).1 (2 + a) = v := HV.out
          show - (rcell (F (s + k)).1 (2 + a)) < - (rcell (F (s + r)).1 (2 + a))
          rw [h1, h2]
          omega
        have hp1 := part_yes HPT.out hkk
        rw [HXK.out, HYL.out] at hp1
        clear cA cB hkk
        refine (swapE_c w p N F xk yl _ hp hq hpq hfF b6 b7).mono ?_
        rintro e' w1 ⟨rfl, d3, rfl⟩
        have hf2 : Fit N.leaf (fE (swapF F xk yl)) := Fit.swapE hfF xk yl
        generalize swapF F xk yl = F2 at hf2 hp1 ⊢
        have HP1 := Lib.hid hp1
        clear hp1
        go_wp2_with fail
        go_roundw
        case rel => exact ⟨k + 1, lf + 1, F2, by omega, by go_num, by go_num, HP1.out, hf2, _, rfl⟩
        case measure => simp [intOf]; omega
      · have hkk : ¬ keyK a true true (F (s + k)) < keyK a true true (F (s + r)) := by
          have h1 : rcell (F (s + k)).1 (2 + a) = u := HU.out
          have h2 : rcell (F (s + r)).1 (2 + a) = v := HV.out
          show ¬ - (rcell (F (s + k)).1 (2 + a)) < - (rcell (F (s + r)).1 (2 + a))
          rw [h1, h2]
          omega
        have hp1 := part_no HPT.out hkk
        have HP1 := Lib.hid hp1
        clear hp1 hkk cA cB
        go_roundw
        case rel => exact ⟨k + 1, lf, F, by omega, by go_num, rfl, HP1.out, hfF, _, rfl⟩
        case measure => simp [intOf]; omega

theorem qsort_c (w : World) (p : Nat) (N : Nd) (a : Nat) (rev mx : Bool) (ha : a ≤ 1) (hp : p < w.heap.size) (hq : N.q < w.heap.size) (hpq : p ≠ N.q)
    (fu s m e : Nat) (E : Ent) (d : Nat) (he : e = s + m) (hm : m ≤ fu) (h64 : s + m ≤ 64) (hf : Fit N.leaf (fE E)) :
    Calls Try.prog 67 #[.pointer (some ⟨p, 0, none⟩), .int .i64 s, .int .i64 e, .int .i64 a, .bool rev, .bool mx] ((w.putE p N (elT N.leaf) E).drewN d)
      fun e w' => e = .returned (.tuple #[]) ∧ ∃ d, w' = (w.putE p N (elT N.leaf) (qs (keyK a rev mx) fu E s m)).drewN d := by
  cases rev <;> cases mx
  · exact qsort_false_false w p N a ha hp hq hpq fu s m e E d he hm h64 hf
  · exact qsort_false_true w p N a ha hp hq hpq fu s m e E d he hm h64 hf
  · exact qsort_true_false w p N a ha hp hq hpq fu s m e E d he hm h64 hf
  · exact qsort_true_true w p N a ha hp hq hpq fu s m e E d he hm h64 hf

end Go.Proofs.Ytenokcfpmfoekaa
