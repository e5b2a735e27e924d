/- The contracts of 'sort' and 'issorted'; two nodes side by side. -/
import Derived.Test.YtenokcfpmfoekaaSortA
import Derived.Test.YtenokcfpmfoekaaMove
set_option linter.unusedSimpArgs false
set_option linter.unusedVariables false
namespace Go.Proofs.Ytenokcfpmfoekaa
open Go.RowKit Go.Bx
set_option maxRecDepth 100000 in
set_option maxHeartbeats 800000 in
theorem sort_c (w : World) (p : Nat) (N : Nd) (hp : p < w.heap.size) (hq : N.q < w.heap.size) (hpq : p ≠ N.q)
    (n : Nat) (E : Ent) (d : Nat) (hn : N.cnt = n) (h64 : n ≤ 64) (hf : Fit N.leaf (fE E)) :
    Calls Try.prog 73 #[.pointer (some ⟨p, 0, none⟩)] ((w.putE p N (elT N.leaf) E).drewN d)
      fun e w' => e = .returned (.tuple #[]) ∧ ∃ d, w' = (w.putE p N (elT N.leaf) (qs (keyK 0 false false) n E 0 n)).drewN d := by
  have hc := (NodeAt.putE w p N (elT N.leaf) E hp hpq.symm).cell2
  have e : (ndE N E).cnt = n := hn
  rw [e] at hc
  clear e
  have hQ := qsort_c w p N 0 false false (by omega) hp hq hpq n 0 n n E d (by omega) (Nat.le_refl _) (by omega) hf
  have z : ((0 : Nat) : Int) = 0 := rfl
  rw [z] at hQ
  clear z
  go_enter Try.func73, Try.ntmps73
  go_wp2_with fail
  refine hQ.mono ?_
  rintro e w1 ⟨rfl, d1, rfl⟩
  go_wp2_with fail
  go_end0
  exact ⟨rfl, _, rfl⟩

/-- Are the boxes in order? -/
def inOrd (rc : Nat → R) (k : Nat) : Bool := inOrder (fun i => (rc i, ())) k
theorem inOrd_succ (rc : Nat → R) (k : Nat) : inOrd rc (k + 1) = (inOrd rc k && !decide ((rc (k + 1)).x0 < (rc k).x0)) := rfl
theorem inOrd_E {α : Type} (E : Nat → R × α) : ∀ k, inOrd (fun i => (E i).1) k = inOrder E k
  | 0 => rfl
  | k + 1 => by rw [inOrd_succ, inOrd_E E k]; rfl
theorem inOrd_no {rc : Nat → R} {k : Nat} (h : (rc (k + 1)).x0 < (rc k).x0) : ∀ m, k + 1 ≤ m → inOrd rc m = false
  | 0, hm => by omega
  | m + 1, hm => by
    rw [inOrd_succ]
    by_cases e : k = m
    · subst e; simp [h]
    · rw [inOrd_no h m (by omega)]; rfl
set_option maxRecDepth 100000 in
set_option maxHeartbeats 1600000 in
theorem issorted_c (w : World) (p : Nat) (N : Nd) (n : Nat) (hN : NodeAt w p N) (hn : N.cnt = n) (h64 : n ≤ 64) :
    Calls Try.prog 72 #[.pointer (some ⟨p, 0, none⟩)] w fun e w' => e = .returned (.bool (inOrd N.rc (n - 1))) ∧ ∃ d, w' = w.drewN d := by
  have hc := hN.cell2
  rw [hn] at hc
  have n0 : (0 : Int) ≤ (n : Int) := by omega
  have n1 : (n : Int) ≤ 64 := by omega
  go_enter Try.func72, Try.ntmps72
  go_wp2_with fail
  (refine Mix.wp_region_dr (by kernel_rfl) (by kernel_rfl) ?_; (repeat (go_big_quiet_step (fail))); refine wpQuiet_nil ?_; intro nq)
  go_wp2_with fail
  go_loopw [4] (fun i wr => ∃ k : Nat, k + 1 ≤ max n 1 ∧ i = .int .i64 ((k + 1 : Nat) : Int) ∧ inOrd N.rc k = true ∧ ∃ d, wr = w.drewN d) (fun i _ => n - (intOf i).toNat)
  case atStart => exact ⟨0, by omega, rfl, rfl, _, rfl⟩
  case round =>
    obtain ⟨k, hk, rfl, hst, d, rfl⟩ := hrel
    have HST := Lib.hid hst
    clear hst
    obtain ⟨m, hm⟩ : ∃ m, k + 1 = m := ⟨_, rfl⟩
    have HM := Lib.hid hm
    have hmi : (m : Int) - 1 = k := by omega
    rw [hm] at hk ⊢
    clear hm
    by_cases hlt : m < n
    case neg =>
      have hkn : n - 1 = k := by have := HM.out; omega
      go_wp2_with fail
      go_ret
      rw [hkn]
      exact ⟨by rw [HST.out]; rfl, _, rfl⟩
    have r1 := rectAt_node hN (i := m) (by omega)
    have r0 := rectAt_node hN (i := k) (by have := HM.out; omega)
    obtain ⟨c1, _, _, _⟩ := r1
    obtain ⟨c0, _, _, _⟩ := r0
    generalize hu : (N.rc m).x0 = u at c1
    generalize hv : (N.rc k).x0 = v at c0
    have HU := Lib.hid hu
    have HV := Lib.hid hv
    have b1 : k < 64 := by have := HM.out; omega
    have b2 : (k : Int) < n := by have := HM.out; omega
    have b3 : (0 : Int) ≤ k := by omega
    clear hu hv
    go_wp2_with fail
    (refine Mix.wp_region_dr (by kernel_rfl) (by kernel_rfl) ?_; (repeat (go_big_quiet_step (fail))); refine wpQuiet_nil ?_; intro nq)
    go_wp2_with fail
    · have hlt2 : u < v := by assumption
      go_ret
      refine ⟨?_, _, World.drewN_drewN _ _ _⟩
      rw [inOrd_no (rc := N.rc) (k := k) (by rw [HM.out, HU.out, HV.out]; exact hlt2) (n - 1) (by have := HM.out; omega)]
      rfl
    · have hge : ¬ u < v := by omega
      clear c1 c0 hc
      go_roundw
      case rel => exact ⟨m, by omega, by go_num, by rw [← HM.out, inOrd_succ, HST.out, HM.out, HU.out, HV.out]; simp; omega, _, rfl⟩
      case measure => simp [intOf]; omega
end Go.Proofs.Ytenokcfpmfoekaa
