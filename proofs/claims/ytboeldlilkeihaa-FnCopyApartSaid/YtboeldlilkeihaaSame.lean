/- The contracts of key, less, Sorted, Same. -/
import Derived.Test.YtboeldlilkeihaaRefB
import Derived.Test.YtboeldlilkeihaaRgD
import Derived.Test.YtboeldlilkeihaaColl
set_option linter.unusedSimpArgs false
set_option linter.unusedVariables false
namespace Go.Bx
/-- An item's five numbers. -/
def kc (x : R × Int) (i : Nat) : Int := [x.1.x0, x.1.y0, x.1.x1, x.1.y1, x.2].getD i 0
theorem kc_lt {x y : R × Int} {k : Nat} (hk : k < 5) (h : ∀ j, j < k → kc x j = kc y j) (hn : kc x k ≠ kc y k) : decide (kc x k < kc y k) = decide (ltI x y) := by
  have h0 := h 0
  have h1 := h 1
  have h2 := h 2
  have h3 := h 3
  rw [decide_eq_decide]
  unfold ltI
  obtain rfl | rfl | rfl | rfl | rfl : k = 0 ∨ k = 1 ∨ k = 2 ∨ k = 3 ∨ k = 4 := by omega
  all_goals
    simp [kc] at h0 h1 h2 h3 hn ⊢
    omega
theorem kc_eq {x y : R × Int} (h : ∀ j, j < 5 → kc x j = kc y j) : decide (ltI x y) = false := by
  have h0 := h 0 (by omega)
  have h1 := h 1 (by omega)
  have h2 := h 2 (by omega)
  have h3 := h 3 (by omega)
  have h4 := h 4 (by omega)
  apply decide_eq_false
  unfold ltI
  simp [kc] at h0 h1 h2 h3 h4
  omega
end Go.Bx
namespace Go.Proofs.Ytboeldlilkeihaa
open Go.RowKit Go.Bx
set_option maxRecDepth 100000 in
theorem key_c (w : World) (x : R × Int) :
    Calls Try.prog 70 #[.agg #[.int .i64 x.1.x0, .int .i64 x.1.y0, .int .i64 x.1.x1, .int .i64 x.1.y1, .int .i64 x.2]] w fun e w' => e = .returned (.agg #[.int .i64 x.1.x0, .int .i64 x.1.y0, .int .i64 x.1.x1, .int .i64 x.1.y1, .int .i64 x.2]) ∧ Mix.Ex w w' := by
  go_enter Try.func70, Try.ntmps70
  go_wp2_with fail
  refine bodyPost_ret (v := .agg #[.int .i64 x.1.x0, .int .i64 x.1.y0, .int .i64 x.1.x1, .int .i64 x.1.y1, .int .i64 x.2]) (by simp [results, Try.results70, go_sem]) rfl ⟨rfl, ?_⟩
  exact ((Mix.Ex.refl _).alloc _).alloc _
set_option maxRecDepth 100000 in
set_option maxHeartbeats 1600000 in
theorem less_c (w : World) (x y : R × Int) :
    Calls Try.prog 52 #[.agg #[.int .i64 x.1.x0, .int .i64 x.1.y0, .int .i64 x.1.x1, .int .i64 x.1.y1, .int .i64 x.2], .agg #[.int .i64 y.1.x0, .int .i64 y.1.y0, .int .i64 y.1.x1, .int .i64 y.1.y1, .int .i64 y.2]] w
      fun e w' => e = .returned (.bool (decide (ltI x y))) ∧ Mix.Ex w w' := by
  go_enter Try.func52, Try.ntmps52
  go_upto_region 1 with (fail)
  have hxa := ((Mix.Ex.refl w).alloc (.cells (itemV x).toArray 35)).alloc (.cells (itemV y).toArray 35)
  have n5 := ((Mix.Ex.refl (w.alloc (.cells (itemV x).toArray 35))).alloc (.cells (itemV y).toArray 35)).obj (heap_alloc_new w (.cells (itemV x).toArray 35))
  have n6 := heap_alloc_new (w.alloc (.cells (itemV x).toArray 35)) (.cells (itemV y).toArray 35)
  rw [World.size_alloc] at n6
  change Code.wp _ _ _ _ ((w.alloc (.cells (itemV x).toArray 35)).alloc (.cells (itemV y).toArray 35))
  generalize ((w.alloc (.cells (itemV x).toArray 35)).alloc (.cells (itemV y).toArray 35)) = w1 at hxa n5 n6 ⊢
  obtain ⟨B5, hB5⟩ : ∃ B5, w.heap.size = B5 := ⟨_, rfl⟩
  obtain ⟨B6, hB6⟩ : ∃ B6, w.heap.size + 1 = B6 := ⟨_, rfl⟩
  rw [hB6] at n6 ⊢
  rw [hB5] at n5 ⊢
  have l5 := (Array.getElem?_eq_some_iff.1 n5).1
  have l6 := (Array.getElem?_eq_some_iff.1 n6).1
  have a0 := cellOf n5 0
  have a1 := cellOf n5 1
  have a2 := cellOf n5 2
  have a3 := cellOf n5 3
  have a4 := cellOf n5 4
  have b0 := cellOf n6 0
  have b1 := cellOf n6 1
  have b2 := cellOf n6 2
  have b3 := cellOf n6 3
  have b4 := cellOf n6 4
  simp only [itemV, List.getElem?_toArray, List.getElem?_cons_zero, List.getElem?_cons_succ] at a0 a1 a2 a3 a4 b0 b1 b2 b3 b4
  clear n5 n6
  have hCC : ∀ W, Mix.Ex w1 W → (W.cell? ⟨B5, 0, none⟩ = some (.int .i64 x.1.x0) ∧ W.cell? ⟨B5, 1, none⟩ = some (.int .i64 x.1.y0) ∧ W.cell? ⟨B5, 2, none⟩ = some (.int .i64 x.1.x1) ∧ W.cell? ⟨B5, 3, none⟩ = some (.int .i64 x.1.y1) ∧ W.cell? ⟨B5, 4, none⟩ = some (.int .i64 x.2)) :=
    fun W h => ⟨h.cell a0, h.cell a1, h.cell a2, h.cell a3, h.cell a4⟩
  have hI1 := (Mix.Ex.refl w1).drewN 1
  have HC := hCC _ hI1
  refine wp_region_K (fun W => W.cell? ⟨B5, 0, none⟩ = some (.int .i64 x.1.x0) ∧ W.cell? ⟨B5, 1, none⟩ = some (.int .i64 x.1.y0) ∧ W.cell? ⟨B5, 2, none⟩ = some (.int .i64 x.1.x1) ∧ W.cell? ⟨B5, 3, none⟩ = some (.int .i64 x.1.y1) ∧ W.cell? ⟨B5, 4, none⟩ = some (.int .i64 x.2)) 6 (by kernel_rfl) ?_
  change wpAnyK _ _ _ _ _ 8 (Array.replicate 8 false) _ _
  (refine wpAnyK_take (i := 0) (oi := ?_) (v := ?_) ?_ ?_ ?_ ?_ ?_ ?_ ?_ ?_ ?_; rotate_left 2; (focus (simp only [List.getElem?_toArray, List.getElem?_cons_zero, List.getElem?_cons_succ]; rfl)); (focus kernel_rfl); (focus kernel_rfl); (focus kernel_rfl); (focus kernel_rfl); (focus exact fun _ _ _ h => h); (focus (refine Or.inl ⟨by rfl, ?_⟩; intro W hW; (try dsimp only at hW); go_simp; try with_reducible rfl)); (focus exact HC); (try simp only [Act.put, List.setIfInBounds_toArray, List.set_cons_zero, List.set_cons_succ]))
  have HXA := Lib.hid hxa
  clear hxa
  refine wpAnyK_rgD (us := [1, 2, 3, 4, 5])
    (fun i j u v => match i, j with
      | 4, 5 => u ≠ v
      | 5, 4 => u ≠ v
      | _, _ => True)
    (fun _ _ => True)
    (fun i v W => match i with
      | 1 => v = .agg #[.int .i64 x.1.x0, .int .i64 x.1.y0, .int .i64 x.1.x1, .int .i64 x.1.y1, .int .i64 x.2]
      | 2 => v = .agg #[.int .i64 y.1.x0, .int .i64 y.1.y0, .int .i64 y.1.x1, .int .i64 y.1.y1, .int .i64 y.2]
      | 3 => v = .agg #[.int .i64 y.1.x0, .int .i64 y.1.y0, .int .i64 y.1.x1, .int .i64 y.1.y1, .int .i64 y.2]
      | 4 => ∃ p, v = .pointer (some ⟨p, 0, none⟩) ∧ W.heap[p]? = some (.cells #[.int .i64 0, .int .i64 0, .int .i64 0, .int .i64 0, .int .i64 0] 116 (0, 0)) ∧ w1.heap.size ≤ p
      | 5 => ∃ p, v = .pointer (some ⟨p, 0, none⟩) ∧ W.heap[p]? = some (.cells #[.int .i64 0, .int .i64 0, .int .i64 0, .int .i64 0, .int .i64 0] 116 (0, 0)) ∧ w1.heap.size ≤ p
      | _ => True)
    (fun _ => Mix.Ex) (Mix.Ex w1) (by kernel_rfl) 2 hCC hI1 (fun _ _ => trivial) (fun _ _ _ _ _ _ _ _ _ => trivial) ?_ ?_ ?_
  · intro i hi j hj hij v W W' hv hg
    simp only [List.mem_cons, List.not_mem_nil, or_false] at hi
    rcases hi with rfl | rfl | rfl | rfl | rfl
    · exact hv
    · exact hv
    · exact hv
    · obtain ⟨p, h1, h2, h3⟩ := hv; exact ⟨p, h1, hg.obj h2, h3⟩
    · obtain ⟨p, h1, h2, h3⟩ := hv; exact ⟨p, h1, hg.obj h2, h3⟩
  · intro i hi
    simp only [List.mem_cons, List.not_mem_nil, or_false] at hi
    rcases hi with rfl | rfl | rfl | rfl | rfl
    · intro o ho D v0 W hI hb hAD hd K hK
      simp only [List.getElem?_toArray, List.getElem?_cons_zero, List.getElem?_cons_succ, Option.some.injEq] at ho
      subst ho
      simp only [putU, dstOf, List.getElem?_toArray, List.getElem?_cons_zero, List.getElem?_cons_succ, Option.bind_some, Act.put, List.setIfInBounds_toArray, List.set_cons_zero, List.set_cons_succ] at hK ⊢
      clear hd hAD
      go_simp
      refine (key_c _ x).mono ?_
      rintro e W1 ⟨rfl, hx1⟩
      exact hK _ _ (hI.trans hx1) hx1 rfl (fun _ _ _ _ => trivial)
    · intro o ho D v0 W hI hb hAD hd K hK
      simp only [List.getElem?_toArray, List.getElem?_cons_zero, List.getElem?_cons_succ, Option.some.injEq] at ho
      subst ho
      simp only [putU, dstOf, List.getElem?_toArray, List.getElem?_cons_zero, List.getElem?_cons_succ, Option.bind_some, Act.put, List.setIfInBounds_toArray, List.set_cons_zero, List.set_cons_succ] at hK ⊢
      clear hd hAD
      have d0 := hI.cell b0
      have d1 := hI.cell b1
      have d2 := hI.cell b2
      have d3 := hI.cell b3
      have d4 := hI.cell b4
      clear a0 a1 a2 a3 a4 b0 b1 b2 b3 b4 HC
      have HI := Lib.hid hI
      clear hI
      go_simp
      exact hK _ _ HI.out (Mix.Ex.refl _) rfl (fun _ _ _ _ => trivial)
    · intro o ho D v0 W hI hb hAD hd K hK
      simp only [List.getElem?_toArray, List.getElem?_cons_zero, List.getElem?_cons_succ, Option.some.injEq] at ho
      subst ho
      simp only [putU, dstOf, List.getElem?_toArray, List.getElem?_cons_zero, List.getElem?_cons_succ, Option.bind_some, Act.put, List.setIfInBounds_toArray, List.set_cons_zero, List.set_cons_succ] at hK ⊢
      have h2 := hd ⟨2, .data⟩ (by simp) rfl rfl
      dsimp only at h2
      rw [h2] at hK ⊢
      clear hd hAD h2
      go_simp
      refine (key_c _ y).mono ?_
      rintro e W1 ⟨rfl, hx1⟩
      exact hK _ _ (hI.trans hx1) hx1 rfl (fun _ _ _ _ => trivial)
    · intro o ho D v0 W hI hb hAD hd K hK
      simp only [List.getElem?_toArray, List.getElem?_cons_zero, List.getElem?_cons_succ, Option.some.injEq] at ho
      subst ho
      simp only [putU, dstOf, List.getElem?_toArray, List.getElem?_cons_zero, List.getElem?_cons_succ, Option.bind_some, Act.put, List.setIfInBounds_toArray, List.set_cons_zero, List.set_cons_succ] at hK ⊢
      clear hd
      have hs := hI.below.size
      have HAD := Lib.hid hAD
      have HI := Lib.hid hI
      clear hAD hI a0 a1 a2 a3 a4 b0 b1 b2 b3 b4 HC
      go_simp
      refine hK _ _ (HI.out.alloc _) ((Mix.Ex.refl _).alloc _) ⟨W.heap.size, rfl, heap_alloc_new _ _, hs⟩ (fun j hj hD hne => ?_)
      simp only [List.mem_cons, List.not_mem_nil, or_false] at hj
      rcases hj with rfl | rfl | rfl | rfl | rfl
      · trivial
      · trivial
      · trivial
      · exact absurd rfl hne
      · obtain ⟨p, h1, h2, _⟩ := HAD.out 5 (by simp) hD (by decide)
        have h3 := (Array.getElem?_eq_some_iff.1 h2).1
        show _ ≠ _
        rw [h1]
        intro e
        simp only [Value.pointer.injEq, Option.some.injEq, Addr.mk.injEq] at e
        omega
    · intro o ho D v0 W hI hb hAD hd K hK
      simp only [List.getElem?_toArray, List.getElem?_cons_zero, List.getElem?_cons_succ, Option.some.injEq] at ho
      subst ho
      simp only [putU, dstOf, List.getElem?_toArray, List.getElem?_cons_zero, List.getElem?_cons_succ, Option.bind_some, Act.put, List.setIfInBounds_toArray, List.set_cons_zero, List.set_cons_succ] at hK ⊢
      clear hd
      have hs := hI.below.size
      have HAD := Lib.hid hAD
      have HI := Lib.hid hI
      clear hAD hI a0 a1 a2 a3 a4 b0 b1 b2 b3 b4 HC
      go_simp
      refine hK _ _ (HI.out.alloc _) ((Mix.Ex.refl _).alloc _) ⟨W.heap.size, rfl, heap_alloc_new _ _, hs⟩ (fun j hj hD hne => ?_)
      simp only [List.mem_cons, List.not_mem_nil, or_false] at hj
      rcases hj with rfl | rfl | rfl | rfl | rfl
      · trivial
      · trivial
      · trivial
      · obtain ⟨p, h1, h2, _⟩ := HAD.out 4 (by simp) hD (by decide)
        have h3 := (Array.getElem?_eq_some_iff.1 h2).1
        show _ ≠ _
        rw [h1]
        intro e
        simp only [Value.pointer.injEq, Option.some.injEq, Addr.mk.injEq] at e
        omega
      · exact absurd rfl hne
  · intro v0 W hI hA hR
    have e1 : v0 1 = _ := hA 1 (by simp)
    have e3 : v0 3 = _ := hA 3 (by simp)
    obtain ⟨p, e4, h4, hp⟩ := hA 4 (by simp)
    obtain ⟨q, e5, h5, hq⟩ := hA 5 (by simp)
    have hpq : p ≠ q := by
      rcases hR 4 (by simp) 5 (by simp) (by decide) with h | h
      · have h : v0 4 ≠ v0 5 := h
        rw [e4, e5] at h
        exact fun e => h (by rw [e])
      · have h : v0 5 ≠ v0 4 := h
        rw [e4, e5] at h
        exact fun e => h (by rw [e])
    clear hA hR
    simp only [putU, dstOf, List.getElem?_toArray, List.getElem?_cons_zero, List.getElem?_cons_succ, Option.bind_some, Act.put, List.setIfInBounds_toArray, List.set_cons_zero, List.set_cons_succ]
    rw [e1, e3, e4, e5]
    generalize v0 2 = v2
    clear e1 e3 e4 e5 v0
    have hxw := HXA.out.trans hI
    have hpw : w.heap.size ≤ p := Nat.le_trans HXA.out.below.size hp
    have hqw : w.heap.size ≤ q := Nat.le_trans HXA.out.below.size hq
    have lp := (Array.getElem?_eq_some_iff.1 h4).1
    have lq := (Array.getElem?_eq_some_iff.1 h5).1
    have HC := hCC _ hI
    clear a0 a1 a2 a3 a4 b0 b1 b2 b3 b4 hI1
    have s0 := cellOf h4 0
    have s1 := cellOf h4 1
    have s2 := cellOf h4 2
    have s3 := cellOf h4 3
    have s4 := cellOf h4 4
    simp only [List.getElem?_toArray, List.getElem?_cons_zero, List.getElem?_cons_succ] at s0 s1 s2 s3 s4
    have f0 := frzOf h4 0
    have f1 := frzOf h4 1
    have f2 := frzOf h4 2
    have f3 := frzOf h4 3
    have f4 := frzOf h4 4
    have m4 := (setCell_obj (setCell_obj (setCell_obj (setCell_obj (setCell_obj h4 0 (.int .i64 x.1.x0)) 1 (.int .i64 x.1.y0)) 2 (.int .i64 x.1.x1)) 3 (.int .i64 x.1.y1)) 4 (.int .i64 x.2))
    simp only [List.setIfInBounds_toArray, List.set_cons_zero, List.set_cons_succ] at m4
    have m5 : (((((W.setCell ⟨p, 0, none⟩ (.int .i64 x.1.x0)).setCell ⟨p, 1, none⟩ (.int .i64 x.1.y0)).setCell ⟨p, 2, none⟩ (.int .i64 x.1.x1)).setCell ⟨p, 3, none⟩ (.int .i64 x.1.y1)).setCell ⟨p, 4, none⟩ (.int .i64 x.2)).heap[q]? = _ := ((((((setCell_ne 4 (Ne.symm hpq) _ none).trans (setCell_ne 3 (Ne.symm hpq) _ none)).trans (setCell_ne 2 (Ne.symm hpq) _ none)).trans (setCell_ne 1 (Ne.symm hpq) _ none)).trans (setCell_ne 0 (Ne.symm hpq) _ none)).trans h5)
    have hx5 := (((((hxw.setCell (p := ⟨p, 0, none⟩) hpw (.int .i64 x.1.x0)).setCell (p := ⟨p, 1, none⟩) hpw (.int .i64 x.1.y0)).setCell (p := ⟨p, 2, none⟩) hpw (.int .i64 x.1.x1)).setCell (p := ⟨p, 3, none⟩) hpw (.int .i64 x.1.y1)).setCell (p := ⟨p, 4, none⟩) hpw (.int .i64 x.2))
    have M4 := Lib.hid m4
    have M5 := Lib.hid m5
    have HX5 := Lib.hid hx5
    clear m4 m5 hx5 h4 h5 hxw hI hp hq
    (refine wpAnyK_one (i := 6) (o := ?_) ?_ ?_ ?_ (fun K hK => ?_); rotate_left 1; (focus kernel_rfl); (focus (simp only [List.getElem?_toArray, List.getElem?_cons_zero, List.getElem?_cons_succ]; rfl)); (focus rfl))
    go_simp
    generalize (((((W.setCell ⟨p, 0, none⟩ (.int .i64 x.1.x0)).setCell ⟨p, 1, none⟩ (.int .i64 x.1.y0)).setCell ⟨p, 2, none⟩ (.int .i64 x.1.x1)).setCell ⟨p, 3, none⟩ (.int .i64 x.1.y1)).setCell ⟨p, 4, none⟩ (.int .i64 x.2)) = w5 at M4 M5 HX5 hK ⊢
    refine hK _ _ (fun h => absurd h (by decide +kernel)) ?_
    clear hK K s0 s1 s2 s3 s4 f0 f1 f2 f3 f4 HC
    have s0 := cellOf M5.out 0
    have s1 := cellOf M5.out 1
    have s2 := cellOf M5.out 2
    have s3 := cellOf M5.out 3
    have s4 := cellOf M5.out 4
    simp only [List.getElem?_toArray, List.getElem?_cons_zero, List.getElem?_cons_succ] at s0 s1 s2 s3 s4
    have f0 := frzOf M5.out 0
    have f1 := frzOf M5.out 1
    have f2 := frzOf M5.out 2
    have f3 := frzOf M5.out 3
    have f4 := frzOf M5.out 4
    have m5 := (setCell_obj (setCell_obj (setCell_obj (setCell_obj (setCell_obj M5.out 0 (.int .i64 y.1.x0)) 1 (.int .i64 y.1.y0)) 2 (.int .i64 y.1.x1)) 3 (.int .i64 y.1.y1)) 4 (.int .i64 y.2))
    simp only [List.setIfInBounds_toArray, List.set_cons_zero, List.set_cons_succ] at m5
    have m4 : (((((w5.setCell ⟨q, 0, none⟩ (.int .i64 y.1.x0)).setCell ⟨q, 1, none⟩ (.int .i64 y.1.y0)).setCell ⟨q, 2, none⟩ (.int .i64 y.1.x1)).setCell ⟨q, 3, none⟩ (.int .i64 y.1.y1)).setCell ⟨q, 4, none⟩ (.int .i64 y.2)).heap[p]? = _ := ((((((setCell_ne 4 hpq _ none).trans (setCell_ne 3 hpq _ none)).trans (setCell_ne 2 hpq _ none)).trans (setCell_ne 1 hpq _ none)).trans (setCell_ne 0 hpq _ none)).trans M4.out)
    have hx6 := (((((HX5.out.setCell (p := ⟨q, 0, none⟩) hqw (.int .i64 y.1.x0)).setCell (p := ⟨q, 1, none⟩) hqw (.int .i64 y.1.y0)).setCell (p := ⟨q, 2, none⟩) hqw (.int .i64 y.1.x1)).setCell (p := ⟨q, 3, none⟩) hqw (.int .i64 y.1.y1)).setCell (p := ⟨q, 4, none⟩) hqw (.int .i64 y.2))
    have N4 := Lib.hid m4
    have N5 := Lib.hid m5
    have HX6 := Lib.hid hx6
    clear m4 m5 hx6 M4 M5 HX5
    (refine wpAnyK_one (i := 7) (o := ?_) ?_ ?_ ?_ (fun K hK => ?_); rotate_left 1; (focus kernel_rfl); (focus (simp only [List.getElem?_toArray, List.getElem?_cons_zero, List.getElem?_cons_succ]; rfl)); (focus rfl))
    go_simp
    generalize (((((w5.setCell ⟨q, 0, none⟩ (.int .i64 y.1.x0)).setCell ⟨q, 1, none⟩ (.int .i64 y.1.y0)).setCell ⟨q, 2, none⟩ (.int .i64 y.1.x1)).setCell ⟨q, 3, none⟩ (.int .i64 y.1.y1)).setCell ⟨q, 4, none⟩ (.int .i64 y.2)) = w6 at N4 N5 HX6 hK ⊢
    refine hK _ _ (fun h => absurd h (by decide +kernel)) ?_
    clear hK K s0 s1 s2 s3 s4 f0 f1 f2 f3 f4
    refine wpAnyK_done (by kernel_rfl) ?_ _
    go_wp2_with fail
    go_loopw [12] (fun i wr => ∃ kk : Nat, kk ≤ 5 ∧ i = .int .i64 kk ∧ Hid (∀ j, j < kk → kc x j = kc y j) ∧ ∃ m, wr = w6.drewN m) (fun i _ => 5 - (intOf i).toNat)
    case atStart => exact ⟨0, by omega, rfl, Lib.hid (fun j hj => by omega), 0, rfl⟩
    case round =>
      obtain ⟨kk, hk, rfl, HE, m, rfl⟩ := hrel
      by_cases hlt : kk < 5
      case neg =>
        have hk5 : kk = 5 := by omega
        subst hk5
        have hd := kc_eq HE.out
        go_wp2_with fail
        go_ret
        exact ⟨by rw [hd]; rfl, HX6.out.drewN _⟩
      have cx : w6.cell? ⟨p, kk, none⟩ = some (.int .i64 (kc x kk)) := by
        rw [cellOf N4.out]
        obtain rfl | rfl | rfl | rfl | rfl : kk = 0 ∨ kk = 1 ∨ kk = 2 ∨ kk = 3 ∨ kk = 4 := by omega
        all_goals rfl
      have cy : w6.cell? ⟨q, kk, none⟩ = some (.int .i64 (kc y kk)) := by
        rw [cellOf N5.out]
        obtain rfl | rfl | rfl | rfl | rfl : kk = 0 ∨ kk = 1 ∨ kk = 2 ∨ kk = 3 ∨ kk = 4 := by omega
        all_goals rfl
      have hlt5 := fun hn => kc_lt hlt HE.out hn
      have hnx : kc x kk = kc y kk → Hid (∀ j, j < kk + 1 → kc x j = kc y j) := fun h => Lib.hid fun j hj => by
        by_cases hjk : j < kk
        · exact HE.out j hjk
        · have : j = kk := by omega
          subst this; exact h
      generalize kc x kk = u at cx hlt5 hnx
      generalize kc y kk = v at cy hlt5 hnx
      by_cases huv : u = v
      · have hfin := hnx huv
        subst huv
        clear hlt5 hnx
        go_upto_region 5 with (fail)
        (refine Mix.wp_region_dr (by kernel_rfl) (by kernel_rfl) ?_; (repeat (go_big_quiet_step (fail))); refine wpQuiet_nil ?_; intro nq)
        go_wp2_with fail
        go_roundw
        case measure => simp [intOf]; omega
        case rel => exact ⟨kk + 1, by omega, by go_num, hfin, _, rfl⟩
      · have hd := hlt5 huv
        have hne : (u != v) = true := by simp [huv]
        have HD := Lib.hid hd
        clear hlt5 hnx hd huv
        go_upto_region 5 with (fail)
        (refine Mix.wp_region_dr (by kernel_rfl) (by kernel_rfl) ?_; (repeat (go_big_quiet_step (fail))); refine wpQuiet_nil ?_; intro nq)
        go_upto_region 6 with (fail)
        (refine Mix.wp_region_dr (by kernel_rfl) (by kernel_rfl) ?_; (repeat (go_big_quiet_step (fail))); refine wpQuiet_nil ?_; intro nq)
        go_wp2_with fail
        go_ret
        exact ⟨by rw [← HD.out]; rfl, ((HX6.out.drewN _).drewN _).drewN _⟩
/-- An item written into a list. -/
theorem Row.setItem {w : World} {b0 g n cap : Nat} {L : List (R × Int)} (h : w.Row b0 35 5 itemV (.slice (some ⟨g, 0, none⟩) n cap) L) (hn : L.length = n) {k : Nat} (hk : k < n) (y : R × Int) :
    (((((w.setCell ⟨g, k * 5, none⟩ (.int .i64 y.1.x0)).setCell ⟨g, k * 5 + 1, none⟩ (.int .i64 y.1.y0)).setCell ⟨g, k * 5 + 2, none⟩ (.int .i64 y.1.x1)).setCell ⟨g, k * 5 + 3, none⟩ (.int .i64 y.1.y1)).setCell ⟨g, k * 5 + 4, none⟩ (.int .i64 y.2)).Row b0 35 5 itemV (.slice (some ⟨g, 0, none⟩) n cap) (L.set k y) := by
  subst hn
  have hlen : (L.set k y).length = L.length := List.length_set
  refine ⟨itemV_len, flat_len itemV 5 itemV_len _, ?_⟩
  rcases h.own.2 with ⟨h1, _⟩ | ⟨g', cap', cur, h0, h1, h2, h3, h4, h5, h6⟩
  · cases h1
  cases h0
  have o := setCell_obj (setCell_obj (setCell_obj (setCell_obj (setCell_obj h2 (k * 5) (.int .i64 y.1.x0)) (k * 5 + 1) (.int .i64 y.1.y0)) (k * 5 + 2) (.int .i64 y.1.x1)) (k * 5 + 3) (.int .i64 y.1.y1)) (k * 5 + 4) (.int .i64 y.2)
  refine .inr ⟨g, cap, _, by rw [hlen], h1, o, by omega, h4, by simpa using h5, ?_⟩
  rw [hlen]
  apply List.ext_getElem?
  intro i
  rcases Nat.lt_or_ge i (L.length * 5) with hi | hi
  · rw [List.getElem?_take_of_lt hi, Array.getElem?_toList]
    have hq : i = (i / 5) * 5 + i % 5 := by omega
    have hq5 : i % 5 < 5 := Nat.mod_lt _ (by omega)
    have hqn : i / 5 < L.length := by omega
    have hcs : L.length * 5 ≤ cur.size := by rw [h5]; exact Nat.mul_le_mul_right _ h3
    have e1 : (L.flatMap itemV)[i]? = cur[i]? := by
      rw [← h6, List.getElem?_take_of_lt hi, Array.getElem?_toList]
    by_cases hqk : i / 5 = k
    · have e2 : ((L.set k y).flatMap itemV)[i]? = (itemV y)[i % 5]? := by
        conv => lhs; rw [hq]
        rw [hqk]
        exact flat_get itemV 5 itemV_len _ k (i % 5) y (by rw [List.getElem?_set_self (by omega)]) hq5
      rw [e2]
      simp only [Array.getElem?_setIfInBounds, Array.size_setIfInBounds]
      obtain h | h | h | h | h : i % 5 = 0 ∨ i % 5 = 1 ∨ i % 5 = 2 ∨ i % 5 = 3 ∨ i % 5 = 4 := by omega
      · rw [if_neg (by omega), if_neg (by omega), if_neg (by omega), if_neg (by omega), if_pos (by omega), if_pos (by omega), h]; rfl
      · rw [if_neg (by omega), if_neg (by omega), if_neg (by omega), if_pos (by omega), if_pos (by omega), h]; rfl
      · rw [if_neg (by omega), if_neg (by omega), if_pos (by omega), if_pos (by omega), h]; rfl
      · rw [if_neg (by omega), if_pos (by omega), if_pos (by omega), h]; rfl
      · rw [if_pos (by omega), if_pos (by omega), h]; rfl
    · obtain ⟨z, hz⟩ : ∃ z, L[i / 5]? = some z := ⟨L[i / 5]'(by omega), List.getElem?_eq_getElem _⟩
      have e2 : ((L.set k y).flatMap itemV)[i]? = (itemV z)[i % 5]? := by
        conv => lhs; rw [hq]
        exact flat_get itemV 5 itemV_len _ (i / 5) (i % 5) z (by rw [List.getElem?_set_ne (Ne.symm hqk)]; exact hz) hq5
      have e3 : (L.flatMap itemV)[i]? = (itemV z)[i % 5]? := by
        conv => lhs; rw [hq]
        exact flat_get itemV 5 itemV_len _ (i / 5) (i % 5) z hz hq5
      rw [e2, ← e3, e1]
      simp only [Array.getElem?_setIfInBounds, Array.size_setIfInBounds]
      rw [if_neg (by omega), if_neg (by omega), if_neg (by omega), if_neg (by omega), if_neg (by omega)]
  · rw [List.getElem?_eq_none (by rw [List.length_take]; omega), List.getElem?_eq_none (by rw [flat_len itemV 5 itemV_len, hlen]; omega)]
theorem Row.frz {α : Type} {w : World} {b0 sz : Nat} {T : TypeId} {f : α → List Value} {g n cap : Nat} {L : List α} (h : w.Row b0 T sz f (.slice (some ⟨g, 0, none⟩) n cap) L) (o : Nat) : w.frozen? ⟨g, o, none⟩ = false := by
  rcases h.own.2 with ⟨h1, _⟩ | ⟨g', cap', cur, h0, h1, h2, h3⟩
  · cases h1
  · cases h0; exact frzOf h2 o
end Go.Proofs.Ytboeldlilkeihaa
