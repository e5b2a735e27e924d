/- The contracts of 'rsearch', 'orderToRight', 'orderToLeft'. -/
import Derived.Test.YtboeldlilkeihaaMove
set_option linter.unusedSimpArgs false
set_option linter.unusedVariables false
namespace Go.Proofs.Ytboeldlilkeihaa
open Go.RowKit Go.Bx
/-- The number of the first of n boxes that is not less. -/
theorem rsr_step {α : Type} {E : Nat → R × α} {key : Int} {n f i : Nat} (h : (E i).1.x0 < key) : rsr E key n (f + 1) i = rsr E key n f (i + 1) := by rw [rsr, if_pos h]
theorem rsr_stop {α : Type} {E : Nat → R × α} {key : Int} {n f i : Nat} (h : ¬ (E i).1.x0 < key) : rsr E key n (f + 1) i = i := by rw [rsr, if_neg h]
set_option maxRecDepth 100000 in
set_option maxHeartbeats 1600000 in
theorem rsearch_c (w : World) (p : Nat) (ic : Int) (b : Bool) (q : Nat) (E : Ent) (n : Nat) (key : Int) (hN : NodeAt w p ⟨ic, b, n, q, fun i => (E i).1⟩) (h64 : n ≤ 64) :
    Calls Try.prog 88 #[.pointer (some ⟨p, 0, none⟩), .int .i64 key] w fun e w' => e = .returned (.int .i64 (rsr E key n n 0)) ∧ ∃ d, w' = w.drewN d := by
  have hc := hN.cell2
  dsimp only at hc
  have n0 : (0 : Int) ≤ (n : Int) := by omega
  have n1 : (n : Int) ≤ 64 := by omega
  obtain ⟨Z, hZ⟩ : ∃ Z, rsr E key n n 0 = Z := ⟨_, rfl⟩
  have HZ := Lib.hid hZ
  rw [hZ]
  clear hZ
  go_enter Try.func88, Try.ntmps88
  go_wp2_with fail
  (refine Mix.wp_region_dr (by kernel_rfl) (by kernel_rfl) ?_; (repeat (go_big_quiet_step (fail))); refine wpQuiet_nil ?_; intro nq)
  go_wp2_with fail
  go_loopw [6] (fun i wr => ∃ k f : Nat, k + f = n ∧ i = .int .i64 k ∧ rsr E key n f k = Z ∧ ∃ d, wr = w.drewN d) (fun i _ => n - (intOf i).toNat)
  case atStart => exact ⟨0, n, by omega, rfl, HZ.out, _, rfl⟩
  case round =>
    obtain ⟨k, f, hkf, rfl, hst, d, rfl⟩ := hrel
    have HST := Lib.hid hst
    clear hst
    by_cases hlt : k < n
    case neg =>
      have hf : f = 0 := by omega
      have hz := HST.out
      rw [hf, rsr] at hz
      subst hz
      go_wp2_with fail
      go_ret
      exact ⟨rfl, _, rfl⟩
    obtain ⟨c0, _, _, _⟩ := rectAt_node hN (i := k) (by omega)
    dsimp only at c0
    obtain ⟨g, hg⟩ : ∃ g, f = g + 1 := ⟨f - 1, by omega⟩
    generalize hu : (E k).1.x0 = u at c0
    have HU := Lib.hid hu
    have HG := Lib.hid hg
    clear hu hg
    have b1 : k < 64 := by omega
    by_cases hk : u < key
    · go_wp2_with fail
      clear c0 hc
      go_roundw
      case rel => exact ⟨k + 1, g, by have := HG.out; omega, by go_num, by rw [← rsr_step (by rw [HU.out]; exact hk), ← HG.out]; exact HST.out, _, rfl⟩
      case measure => simp [intOf]; omega
    · have hz := HST.out
      rw [HG.out, rsr_stop (by rw [HU.out]; exact hk)] at hz
      subst hz
      go_wp2_with fail
      go_ret
      exact ⟨rfl, _, rfl⟩

theorem ordR_yes {α : Type} {E : Nat → R × α} {n f i : Nat} (h : i + 1 < n) (k : (E (i + 1)).1.x0 < (E i).1.x0) : ordR E n (f + 1) i = ordR (swapF E (i + 1) i) n f (i + 1) := by rw [ordR, if_pos ⟨h, k⟩]
theorem ordR_no {α : Type} {E : Nat → R × α} {n f i : Nat} (h : n ≤ i + f + 1) (k : ¬ (i + 1 < n ∧ (E (i + 1)).1.x0 < (E i).1.x0)) : ordR E n f i = E := by
  cases f with
  | zero => rfl
  | succ f => rw [ordR, if_neg k]
set_option maxRecDepth 100000 in
set_option maxHeartbeats 3200000 in
theorem ordR_c (w : World) (p : Nat) (N : Nd) (hp : p < w.heap.size) (hq : N.q < w.heap.size) (hpq : p ≠ N.q) (n : Nat) (E : Ent) (d f i : Nat) (hn : N.cnt = n) (h1 : 1 ≤ n) (h64 : n ≤ 64) (hi : i < n) (hf : n ≤ i + f + 1) (hfit : Fit N.leaf (fE E)) :
    Calls Try.prog 93 #[.pointer (some ⟨p, 0, none⟩), .int .i64 i] ((w.putE p N (elT N.leaf) E).drewN d)
      fun e w' => (∃ k : Int, e = .returned (.int .i64 k)) ∧ ∃ d, w' = (w.putE p N (elT N.leaf) (ordR E n f i)).drewN d := by
  obtain ⟨Z, hZ⟩ : ∃ Z, ordR E n f i = Z := ⟨_, rfl⟩
  have HZ := Lib.hid hZ
  rw [hZ]
  clear hZ
  obtain ⟨m, hm⟩ : ∃ m, n - 1 = m := ⟨_, rfl⟩
  have i1 : (n : Int) - 1 = m := by omega
  have HM := Lib.hid hm
  clear hm
  go_enter Try.func93, Try.ntmps93
  go_wp2_with fail
  go_loopw [1] (fun i wr => ∃ (k g : Nat) (F : Ent) (d : Nat), i = .int .i64 k ∧ k < n ∧ n ≤ k + g + 1 ∧ ordR F n g k = Z ∧ Fit N.leaf (fE F) ∧ wr = (w.putE p N (elT N.leaf) F).drewN d) (fun i _ => n - (intOf i).toNat)
  case atStart => exact ⟨i, f, E, d, rfl, hi, hf, HZ.out, hfit, rfl⟩
  case round =>
    obtain ⟨k, g, F, d2, rfl, hkn, hng, hst, hfF, rfl⟩ := hrel
    have HST := Lib.hid hst
    clear hst
    obtain ⟨W, hW⟩ : ∃ W, w.putE p N (elT N.leaf) F = W := ⟨_, rfl⟩
    have hNF : NodeAt W p (ndE N F) := by rw [← hW]; exact NodeAt.putE w p N (elT N.leaf) F hp hpq.symm
    have hc := hNF.cell2
    have hc' : W.cell? ⟨p, 2, none⟩ = some (.int .i16 n) := by rw [hc]; exact congrArg (fun x => some (Value.int .i16 x)) hn
    clear hc
    have k64 : (k : Int) < 64 := by omega
    by_cases hlt : k < m
    case neg =>
      have hz := HST.out
      rw [ordR_no hng (by have := HM.out; omega)] at hz
      subst hz
      have hd : decide ((k : Int) < m) = false := by simp; omega
      rw [hW]
      go_wp2_with fail
      (refine Mix.wp_region_dr (by kernel_rfl) (by kernel_rfl) ?_; (repeat (go_big_quiet_step (fail))); refine wpQuiet_nil ?_; intro nq)
      go_wp2_with fail
      go_ret
      exact ⟨⟨_, rfl⟩, _, by rw [hW]; exact World.drewN_drewN _ _ _⟩
    have hd : decide ((k : Int) < m) = true := by simp; omega
    obtain ⟨k1, hk1⟩ : ∃ k1, k + 1 = k1 := ⟨_, rfl⟩
    have i2 : (k : Int) + 1 = k1 := by omega
    obtain ⟨c0, _, _, _⟩ := rectAt_node hNF (i := k) (by omega)
    obtain ⟨c1, _, _, _⟩ := rectAt_node hNF (i := k1) (by omega)
    have c0' : W.cell? ⟨p, 3 + k * 4, none⟩ = some (.int .i64 (F k).1.x0) := c0
    have c1' : W.cell? ⟨p, 3 + k1 * 4, none⟩ = some (.int .i64 (F k1).1.x0) := c1
    have hSW := fun d => swapE_c w p N F k1 k d hp hq hpq hfF (by omega) (by omega)
    rw [hW] at hSW
    generalize hu : (F k1).1.x0 = u at c1'
    generalize hv : (F k).1.x0 = v at c0'
    have HU := Lib.hid hu
    have HV := Lib.hid hv
    have HK1 := Lib.hid hk1
    have k164 : (k1 : Int) < 64 := by omega
    have HW := Lib.hid hW
    have hk1m : k1 ≤ m := by omega
    rw [hW]
    clear hu hv hk1 c0 c1 hW hNF
    by_cases hcmp : u < v
    · have hd2 : decide (u < v) = true := by simp; omega
      obtain ⟨g', hg'⟩ : ∃ g', g = g' + 1 := ⟨g - 1, by have := HM.out; omega⟩
      have hz := HST.out
      rw [hg', ordR_yes (by have := HM.out; have := HK1.out; omega) (by rw [HK1.out, HU.out, HV.out]; exact hcmp), HK1.out] at hz
      have HZ2 := Lib.hid hz
      have HG := Lib.hid hg'
      have hf2 := Fit.swapE hfF k1 k
      generalize swapF F k1 k = F2 at *
      clear hz hg'
      go_wp2_with fail
      (refine Mix.wp_region_dr (by kernel_rfl) (by kernel_rfl) ?_; (repeat (go_big_quiet_step (fail))); refine wpQuiet_nil ?_; intro nq)
      go_wp2_with fail
      refine (hSW _).mono ?_
      rintro e w2 ⟨rfl, d3, rfl⟩
      clear hSW c0' c1' hc'
      go_wp2_with fail
      go_roundw
      case rel => exact ⟨k1, g', F2, _, by go_num, by have := HM.out; omega, by have := HG.out; have := HK1.out; omega, HZ2.out, hf2, rfl⟩
      case measure => simp [intOf]; omega
    · have hd2 : decide (u < v) = false := by simp; omega
      have hz := HST.out
      rw [ordR_no hng (by rw [HK1.out, HU.out, HV.out]; omega)] at hz
      subst hz
      clear hSW
      go_wp2_with fail
      (refine Mix.wp_region_dr (by kernel_rfl) (by kernel_rfl) ?_; (repeat (go_big_quiet_step (fail))); refine wpQuiet_nil ?_; intro nq)
      go_wp2_with fail
      go_ret
      exact ⟨⟨_, rfl⟩, _, by rw [HW.out]; exact World.drewN_drewN _ _ _⟩

theorem ordL_yes {α : Type} {E : Nat → R × α} {i : Nat} (k : (E (i + 1)).1.x0 < (E i).1.x0) : ordL E (i + 1) = ordL (swapF E (i + 1) i) i := by rw [ordL, if_pos k]
theorem ordL_no {α : Type} {E : Nat → R × α} {i : Nat} (k : ¬ (E (i + 1)).1.x0 < (E i).1.x0) : ordL E (i + 1) = E := by rw [ordL, if_neg k]
set_option maxRecDepth 100000 in
set_option maxHeartbeats 3200000 in
theorem ordL_c (w : World) (p : Nat) (N : Nd) (hp : p < w.heap.size) (hq : N.q < w.heap.size) (hpq : p ≠ N.q) (E : Ent) (d i : Nat) (hi : i < 64) (hfit : Fit N.leaf (fE E)) :
    Calls Try.prog 94 #[.pointer (some ⟨p, 0, none⟩), .int .i64 i] ((w.putE p N (elT N.leaf) E).drewN d)
      fun e w' => (∃ k : Int, e = .returned (.int .i64 k)) ∧ ∃ d, w' = (w.putE p N (elT N.leaf) (ordL E i)).drewN d := by
  obtain ⟨Z, hZ⟩ : ∃ Z, ordL E i = Z := ⟨_, rfl⟩
  have HZ := Lib.hid hZ
  rw [hZ]
  clear hZ
  go_enter Try.func94, Try.ntmps94
  go_wp2_with fail
  go_loopw [1] (fun i wr => ∃ (k : Nat) (F : Ent) (d : Nat), i = .int .i64 k ∧ k < 64 ∧ ordL F k = Z ∧ Fit N.leaf (fE F) ∧ wr = (w.putE p N (elT N.leaf) F).drewN d) (fun i _ => (intOf i).toNat)
  case atStart => exact ⟨i, E, d, rfl, hi, HZ.out, hfit, rfl⟩
  case round =>
    obtain ⟨k, F, d2, rfl, hk64, hst, hfF, rfl⟩ := hrel
    have HST := Lib.hid hst
    clear hst
    obtain ⟨W, hW⟩ : ∃ W, w.putE p N (elT N.leaf) F = W := ⟨_, rfl⟩
    have hNF : NodeAt W p (ndE N F) := by rw [← hW]; exact NodeAt.putE w p N (elT N.leaf) F hp hpq.symm
    have k64 : (k : Int) < 64 := by omega
    by_cases hlt : 0 < k
    case neg =>
      have hk0 : k = 0 := by omega
      have hz := HST.out
      rw [hk0, ordL] at hz
      subst hz
      have hd : decide ((0 : Int) < k) = false := by simp; omega
      rw [hW]
      go_wp2_with fail
      (refine Mix.wp_region_dr (by kernel_rfl) (by kernel_rfl) ?_; (repeat (go_big_quiet_step (fail))); refine wpQuiet_nil ?_; intro nq)
      go_wp2_with fail
      go_ret
      exact ⟨⟨_, rfl⟩, _, by rw [hW]; exact World.drewN_drewN _ _ _⟩
    have hd : decide ((0 : Int) < k) = true := by simp; omega
    obtain ⟨k1, hk1⟩ : ∃ k1, k = k1 + 1 := ⟨k - 1, by omega⟩
    have i2 : (k : Int) - 1 = k1 := by omega
    obtain ⟨c0, _, _, _⟩ := rectAt_node hNF (i := k) (by omega)
    obtain ⟨c1, _, _, _⟩ := rectAt_node hNF (i := k1) (by omega)
    have c0' : W.cell? ⟨p, 3 + k * 4, none⟩ = some (.int .i64 (F k).1.x0) := c0
    have c1' : W.cell? ⟨p, 3 + k1 * 4, none⟩ = some (.int .i64 (F k1).1.x0) := c1
    have hSW := fun d => swapE_c w p N F k k1 d hp hq hpq hfF (by omega) (by omega)
    rw [hW] at hSW
    generalize hu : (F k1).1.x0 = u at c1'
    generalize hv : (F k).1.x0 = v at c0'
    have HU := Lib.hid hu
    have HV := Lib.hid hv
    have k164 : (k1 : Int) < 64 := by omega
    have HW := Lib.hid hW
    have hz := HST.out
    rw [hk1] at hz
    have HK1 := Lib.hid hk1
    rw [hW]
    clear hu hv hk1 c0 c1 hW hNF
    by_cases hcmp : v < u
    · have hd2 : decide (v < u) = true := by simp; omega
      rw [ordL_yes (by rw [← HK1.out, HU.out, HV.out]; exact hcmp), ← HK1.out] at hz
      have HZ2 := Lib.hid hz
      have hf2 := Fit.swapE hfF k k1
      generalize swapF F k k1 = F2 at *
      clear hz
      go_wp2_with fail
      (refine Mix.wp_region_dr (by kernel_rfl) (by kernel_rfl) ?_; (repeat (go_big_quiet_step (fail))); refine wpQuiet_nil ?_; intro nq)
      go_wp2_with fail
      refine (hSW _).mono ?_
      rintro e w2 ⟨rfl, d3, rfl⟩
      clear hSW c0' c1'
      go_wp2_with fail
      go_roundw
      case rel => exact ⟨k1, F2, _, by go_num, by omega, HZ2.out, hf2, rfl⟩
      case measure => simp [intOf]; have := HK1.out; omega
    · have hd2 : decide (v < u) = false := by simp; omega
      rw [ordL_no (by rw [← HK1.out, HU.out, HV.out]; exact hcmp)] at hz
      subst hz
      clear hSW
      go_wp2_with fail
      (refine Mix.wp_region_dr (by kernel_rfl) (by kernel_rfl) ?_; (repeat (go_big_quiet_step (fail))); refine wpQuiet_nil ?_; intro nq)
      go_wp2_with fail
      go_ret
      exact ⟨⟨_, rfl⟩, _, by rw [HW.out]; exact World.drewN_drewN _ _ _⟩
end Go.Proofs.Ytboeldlilkeihaa
