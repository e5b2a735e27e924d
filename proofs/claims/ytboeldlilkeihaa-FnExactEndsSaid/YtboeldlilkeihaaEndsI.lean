/- The contract of impl.Ends. -/
import Derived.Test.YtboeldlilkeihaaEnds
import Derived.Laws.CopyOwn
import Derived.Laws.Rows
import Derived.Laws.Tables
set_option linter.unusedSimpArgs false
set_option linter.unusedVariables false
namespace Go.Proofs.Ytboeldlilkeihaa
open Go.RowKit Go.Bx
/-- The four items. -/
structure EndsOf (G : List (R × Int)) (xa xb xc xd : R × Int) : Prop where
  yes : G ≠ [] → ExL G xa ∧ ExR G xb ∧ ExB G xc ∧ ExT G xd
  no : G = [] → xa = (R0, 0) ∧ xb = (R0, 0) ∧ xc = (R0, 0) ∧ xd = (R0, 0)
theorem size_ends : (Try.prog.info? 63).map (·.size) = some 20 := by kernel_rfl
theorem ex_setRow {a b : World} (h : Mix.Ex a b) {g : Nat} (hg : a.heap.size ≤ g) (cs : Array Value) : Mix.Ex a (b.setRow g cs) := .of_below (below_setRow h.below hg cs)
set_option maxRecDepth 100000 in
set_option maxHeartbeats 16000000 in
theorem implEnds_c (w : World) (S : List Stp) (hS : ∀ st ∈ S, st.ok) (hm : S.length ≤ 900000) (b0 g cap n : Nat) (hn : S.length = n) (hr : w.Row b0 37 11 stepV (.slice (some ⟨g, 0, none⟩) n cap) S) :
    Calls Try.prog 34 #[.slice (some ⟨g, 0, none⟩) n cap] w fun e w' => ∃ xa xb xc xd : R × Int, EndsOf (itT (Bx.runT tre0 S)) xa xb xc xd ∧ e = .returned (.agg #[.int .i64 xa.1.x0, .int .i64 xa.1.y0, .int .i64 xa.1.x1, .int .i64 xa.1.y1, .int .i64 xa.2, .int .i64 xb.1.x0, .int .i64 xb.1.y0, .int .i64 xb.1.x1, .int .i64 xb.1.y1, .int .i64 xb.2, .int .i64 xc.1.x0, .int .i64 xc.1.y0, .int .i64 xc.1.x1, .int .i64 xc.1.y1, .int .i64 xc.2, .int .i64 xd.1.x0, .int .i64 xd.1.y0, .int .i64 xd.1.x1, .int .i64 xd.1.y1, .int .i64 xd.2]) ∧ Mix.Ex w w' := by
  have hO := grown_ok hS
  have hxa := (Mix.Ex.refl w).alloc (.cells #[.int .i64 0, .int .i64 0, .int .i64 0, .int .i64 0, .int .i64 0, .int .i64 0, .int .i64 0, .int .i64 0, .int .i64 0, .int .i64 0, .int .i64 0, .int .i64 0, .int .i64 0, .int .i64 0, .int .i64 0, .int .i64 0, .int .i64 0, .int .i64 0, .int .i64 0, .int .i64 0] 63)
  have n2 := heap_alloc_new w (.cells #[.int .i64 0, .int .i64 0, .int .i64 0, .int .i64 0, .int .i64 0, .int .i64 0, .int .i64 0, .int .i64 0, .int .i64 0, .int .i64 0, .int .i64 0, .int .i64 0, .int .i64 0, .int .i64 0, .int .i64 0, .int .i64 0, .int .i64 0, .int .i64 0, .int .i64 0, .int .i64 0] 63)
  have hG := grown_c (w.alloc (.cells #[.int .i64 0, .int .i64 0, .int .i64 0, .int .i64 0, .int .i64 0, .int .i64 0, .int .i64 0, .int .i64 0, .int .i64 0, .int .i64 0, .int .i64 0, .int .i64 0, .int .i64 0, .int .i64 0, .int .i64 0, .int .i64 0, .int .i64 0, .int .i64 0, .int .i64 0, .int .i64 0] 63)) S hS hm b0 g cap (by rw [hn]; exact hr.ex hxa)
  rw [hn] at hG
  generalize Bx.runT tre0 S = T at hG hO ⊢
  go_enter Try.func34, Try.ntmps34
  go_wp2_with fail
  refine hG.mono ?_
  rintro e w2 ⟨tr, s, rfl, hM, -, -, hx2⟩
  have n2 := hx2.obj n2
  have hl2 := (Array.getElem?_eq_some_iff.1 n2).1
  have hx2 := hxa.trans hx2
  generalize hB2 : w.heap.size = B2 at n2 hl2 ⊢
  have hxb := (Mix.Ex.refl w2).alloc (.cells #[.int .i64 0, .int .i64 0, .int .i64 0, .int .i64 0, .int .i64 0, .int .i64 0, .int .i64 0, .int .i64 0, .int .i64 0, .int .i64 0, .int .i64 0, .int .i64 0, .int .i64 0, .int .i64 0, .int .i64 0, .int .i64 0, .int .i64 0, .int .i64 0, .int .i64 0, .int .i64 0] 63)
  have n4 := heap_alloc_new w2 (.cells #[.int .i64 0, .int .i64 0, .int .i64 0, .int .i64 0, .int .i64 0, .int .i64 0, .int .i64 0, .int .i64 0, .int .i64 0, .int .i64 0, .int .i64 0, .int .i64 0, .int .i64 0, .int .i64 0, .int .i64 0, .int .i64 0, .int .i64 0, .int .i64 0, .int .i64 0, .int .i64 0] 63)
  have hb4 : w.heap.size ≤ w2.heap.size := hx2.below.size
  have HX2 := Lib.hid hx2
  clear hG hxa
  go_upto_region 3 with (fail)
  change Code.wp _ _ _ _ (w2.alloc (.cells #[.int .i64 0, .int .i64 0, .int .i64 0, .int .i64 0, .int .i64 0, .int .i64 0, .int .i64 0, .int .i64 0, .int .i64 0, .int .i64 0, .int .i64 0, .int .i64 0, .int .i64 0, .int .i64 0, .int .i64 0, .int .i64 0, .int .i64 0, .int .i64 0, .int .i64 0, .int .i64 0] 63))
  have m2 := hxb.obj n2
  obtain ⟨B4, hB4⟩ : ∃ B4, w2.heap.size = B4 := ⟨_, rfl⟩
  rw [hB4] at n4 hl2 hb4 ⊢
  generalize (w2.alloc (.cells #[.int .i64 0, .int .i64 0, .int .i64 0, .int .i64 0, .int .i64 0, .int .i64 0, .int .i64 0, .int .i64 0, .int .i64 0, .int .i64 0, .int .i64 0, .int .i64 0, .int .i64 0, .int .i64 0, .int .i64 0, .int .i64 0, .int .i64 0, .int .i64 0, .int .i64 0, .int .i64 0] 63)) = w3 at n4 m2 hxb ⊢
  have hB24 : B2 ≠ B4 := by omega
  have hB42 : B4 ≠ B2 := by omega
  have h24 : w2.heap.size ≤ B4 := by omega
  have HXW := Lib.hid hxb
  have d4 := n4
  have d2 := m2
  clear n2 hx2 hxb n4 m2
  have D4 := Lib.hid d4
  have D2 := Lib.hid d2
  clear d4 d2
  go_wp2_with fail
  refine (endTreeL hM hO w3 HXW.out).mono ?_
  rintro e V0 ⟨xa, hy0, hz0, rfl, hxn⟩
  have d4 := hxn.obj D4.out
  have d2 := hxn.obj D2.out
  have hxw := HXW.out.trans hxn
  have hxq := ((Mix.Ex.refl V0).alloc (.cells #[.int .i64 xa.1.x0, .int .i64 xa.1.y0] 28)).alloc (.cells #[.int .i64 xa.1.x1, .int .i64 xa.1.y1] 28)
  have c5 := ((Mix.Ex.refl (V0.alloc (.cells #[.int .i64 xa.1.x0, .int .i64 xa.1.y0] 28))).alloc (.cells #[.int .i64 xa.1.x1, .int .i64 xa.1.y1] 28)).obj (heap_alloc_new V0 (.cells #[.int .i64 xa.1.x0, .int .i64 xa.1.y0] 28))
  have c6 := heap_alloc_new (V0.alloc (.cells #[.int .i64 xa.1.x0, .int .i64 xa.1.y0] 28)) (.cells #[.int .i64 xa.1.x1, .int .i64 xa.1.y1] 28)
  rw [World.size_alloc] at c6
  have d4 := hxq.obj d4
  have d2 := hxq.obj d2
  have hxw := hxw.trans hxq
  have hl4 := (Array.getElem?_eq_some_iff.1 (hxn.obj D4.out)).1
  go_upto_region 4 with (fail)
  change Code.wp _ _ _ _ ((V0.alloc (.cells #[.int .i64 xa.1.x0, .int .i64 xa.1.y0] 28)).alloc (.cells #[.int .i64 xa.1.x1, .int .i64 xa.1.y1] 28))
  obtain ⟨B5, hB5⟩ : ∃ B5, V0.heap.size = B5 := ⟨_, rfl⟩
  obtain ⟨B6, hB6⟩ : ∃ B6, V0.heap.size + 1 = B6 := ⟨_, rfl⟩
  rw [hB6] at c6 ⊢
  rw [hB5] at c5 hl4 ⊢
  generalize ((V0.alloc (.cells #[.int .i64 xa.1.x0, .int .i64 xa.1.y0] 28)).alloc (.cells #[.int .i64 xa.1.x1, .int .i64 xa.1.y1] 28)) = U0 at c5 c6 d4 d2 hxw ⊢
  have h25 : w2.heap.size ≤ B5 := by omega
  have h26 : w2.heap.size ≤ B6 := by omega
  have n45 : B4 ≠ B5 := by omega
  have n46 : B4 ≠ B6 := by omega
  have n54 : B5 ≠ B4 := by omega
  have n64 : B6 ≠ B4 := by omega
  have n56 : B5 ≠ B6 := by omega
  have n65 : B6 ≠ B5 := by omega
  have n25 : B2 ≠ B5 := by omega
  have n26 : B2 ≠ B6 := by omega
  clear hxq hB5 hB6 hl4
  clear hxn HXW D4 D2
  have a0 := cellOf c5 0
  have a1 := cellOf c5 1
  have a2 := cellOf c6 0
  have a3 := cellOf c6 1
  have s0 := cellOf d4 0
  have f0 := frzOf d4 0
  have s1 := cellOf d4 1
  have f1 := frzOf d4 1
  have s2 := cellOf d4 2
  have f2 := frzOf d4 2
  have s3 := cellOf d4 3
  have f3 := frzOf d4 3
  have s4 := cellOf d4 4
  have f4 := frzOf d4 4
  simp only [List.getElem?_toArray, List.getElem?_cons_zero, List.getElem?_cons_succ] at a0 a1 a2 a3 s0 s1 s2 s3 s4
  go_upto_region 5 with (fail)
  have g4 := (setCell_obj (setCell_obj (setCell_obj (setCell_obj (setCell_obj d4 0 (.int .i64 xa.1.x0)) 1 (.int .i64 xa.1.y0)) 2 (.int .i64 xa.1.x1)) 3 (.int .i64 xa.1.y1)) 4 (.int .i64 xa.2))
  simp only [List.setIfInBounds_toArray, List.set_cons_zero, List.set_cons_succ] at g4
  have g5 : (((((U0.setCell ⟨B4, 0, none⟩ (.int .i64 xa.1.x0)).setCell ⟨B4, 1, none⟩ (.int .i64 xa.1.y0)).setCell ⟨B4, 2, none⟩ (.int .i64 xa.1.x1)).setCell ⟨B4, 3, none⟩ (.int .i64 xa.1.y1)).setCell ⟨B4, 4, none⟩ (.int .i64 xa.2)).heap[B5]? = _ := ((setCell_ne 4 n54 _ none).trans ((setCell_ne 3 n54 _ none).trans ((setCell_ne 2 n54 _ none).trans ((setCell_ne 1 n54 _ none).trans ((setCell_ne 0 n54 _ none).trans c5)))))
  have g6 : (((((U0.setCell ⟨B4, 0, none⟩ (.int .i64 xa.1.x0)).setCell ⟨B4, 1, none⟩ (.int .i64 xa.1.y0)).setCell ⟨B4, 2, none⟩ (.int .i64 xa.1.x1)).setCell ⟨B4, 3, none⟩ (.int .i64 xa.1.y1)).setCell ⟨B4, 4, none⟩ (.int .i64 xa.2)).heap[B6]? = _ := ((setCell_ne 4 n64 _ none).trans ((setCell_ne 3 n64 _ none).trans ((setCell_ne 2 n64 _ none).trans ((setCell_ne 1 n64 _ none).trans ((setCell_ne 0 n64 _ none).trans c6)))))
  have g2 : (((((U0.setCell ⟨B4, 0, none⟩ (.int .i64 xa.1.x0)).setCell ⟨B4, 1, none⟩ (.int .i64 xa.1.y0)).setCell ⟨B4, 2, none⟩ (.int .i64 xa.1.x1)).setCell ⟨B4, 3, none⟩ (.int .i64 xa.1.y1)).setCell ⟨B4, 4, none⟩ (.int .i64 xa.2)).heap[B2]? = _ := ((setCell_ne 4 hB24 _ none).trans ((setCell_ne 3 hB24 _ none).trans ((setCell_ne 2 hB24 _ none).trans ((setCell_ne 1 hB24 _ none).trans ((setCell_ne 0 hB24 _ none).trans d2)))))
  have hxw := (((((hxw.setCell (p := ⟨B4, 0, none⟩) h24 (.int .i64 xa.1.x0)).setCell (p := ⟨B4, 1, none⟩) h24 (.int .i64 xa.1.y0)).setCell (p := ⟨B4, 2, none⟩) h24 (.int .i64 xa.1.x1)).setCell (p := ⟨B4, 3, none⟩) h24 (.int .i64 xa.1.y1)).setCell (p := ⟨B4, 4, none⟩) h24 (.int .i64 xa.2))
  generalize (((((U0.setCell ⟨B4, 0, none⟩ (.int .i64 xa.1.x0)).setCell ⟨B4, 1, none⟩ (.int .i64 xa.1.y0)).setCell ⟨B4, 2, none⟩ (.int .i64 xa.1.x1)).setCell ⟨B4, 3, none⟩ (.int .i64 xa.1.y1)).setCell ⟨B4, 4, none⟩ (.int .i64 xa.2)) = W1 at g5 g6 g4 g2 hxw ⊢
  clear a0 a1 a2 a3 s0 s1 s2 s3 s4 f0 f1 f2 f3 f4 c5 c6 d4 d2
  have c5 := g5
  have c6 := g6
  have d4 := g4
  have d2 := g2
  have HXW := Lib.hid hxw
  clear g5 g6 g4 g2 hxw
  have D4 := Lib.hid d4
  have D2 := Lib.hid d2
  clear d4 d2
  have C5 := Lib.hid c5
  have C6 := Lib.hid c6
  clear c5 c6
  go_wp2_with fail
  refine (endTreeR hM hO W1 HXW.out).mono ?_
  rintro e V1 ⟨xb, hy1, hz1, rfl, hxn⟩
  have d4 := hxn.obj D4.out
  have d2 := hxn.obj D2.out
  have hxw := HXW.out.trans hxn
  have c5 := hxn.obj C5.out
  have c6 := hxn.obj C6.out
  have s0 := cellOf c5 0
  have s1 := cellOf c5 1
  have f0 := frzOf c5 0
  have f1 := frzOf c5 1
  have s2 := cellOf c6 0
  have s3 := cellOf c6 1
  have f2 := frzOf c6 0
  have f3 := frzOf c6 1
  simp only [List.getElem?_toArray, List.getElem?_cons_zero, List.getElem?_cons_succ] at s0 s1 s2 s3
  go_upto_region 6 with (fail)
  have g5 : ((((V1.setCell ⟨B5, 0, none⟩ (.int .i64 xb.1.x0)).setCell ⟨B5, 1, none⟩ (.int .i64 xb.1.y0)).setCell ⟨B6, 0, none⟩ (.int .i64 xb.1.x1)).setCell ⟨B6, 1, none⟩ (.int .i64 xb.1.y1)).heap[B5]? = _ := ((setCell_ne 1 n56 _ none).trans ((setCell_ne 0 n56 _ none).trans (setCell_obj (setCell_obj c5 0 (.int .i64 xb.1.x0)) 1 (.int .i64 xb.1.y0))))
  have g6 : ((((V1.setCell ⟨B5, 0, none⟩ (.int .i64 xb.1.x0)).setCell ⟨B5, 1, none⟩ (.int .i64 xb.1.y0)).setCell ⟨B6, 0, none⟩ (.int .i64 xb.1.x1)).setCell ⟨B6, 1, none⟩ (.int .i64 xb.1.y1)).heap[B6]? = _ := (setCell_obj (setCell_obj ((setCell_ne 1 n65 _ none).trans ((setCell_ne 0 n65 _ none).trans c6)) 0 (.int .i64 xb.1.x1)) 1 (.int .i64 xb.1.y1))
  have g4 : ((((V1.setCell ⟨B5, 0, none⟩ (.int .i64 xb.1.x0)).setCell ⟨B5, 1, none⟩ (.int .i64 xb.1.y0)).setCell ⟨B6, 0, none⟩ (.int .i64 xb.1.x1)).setCell ⟨B6, 1, none⟩ (.int .i64 xb.1.y1)).heap[B4]? = _ := ((setCell_ne 1 n46 _ none).trans ((setCell_ne 0 n46 _ none).trans ((setCell_ne 1 n45 _ none).trans ((setCell_ne 0 n45 _ none).trans d4))))
  have g2 : ((((V1.setCell ⟨B5, 0, none⟩ (.int .i64 xb.1.x0)).setCell ⟨B5, 1, none⟩ (.int .i64 xb.1.y0)).setCell ⟨B6, 0, none⟩ (.int .i64 xb.1.x1)).setCell ⟨B6, 1, none⟩ (.int .i64 xb.1.y1)).heap[B2]? = _ := ((setCell_ne 1 n26 _ none).trans ((setCell_ne 0 n26 _ none).trans ((setCell_ne 1 n25 _ none).trans ((setCell_ne 0 n25 _ none).trans d2))))
  have hxw := ((((hxw.setCell (p := ⟨B5, 0, none⟩) h25 (.int .i64 xb.1.x0)).setCell (p := ⟨B5, 1, none⟩) h25 (.int .i64 xb.1.y0)).setCell (p := ⟨B6, 0, none⟩) h26 (.int .i64 xb.1.x1)).setCell (p := ⟨B6, 1, none⟩) h26 (.int .i64 xb.1.y1))
  simp only [List.setIfInBounds_toArray, List.set_cons_zero, List.set_cons_succ] at g5 g6
  generalize ((((V1.setCell ⟨B5, 0, none⟩ (.int .i64 xb.1.x0)).setCell ⟨B5, 1, none⟩ (.int .i64 xb.1.y0)).setCell ⟨B6, 0, none⟩ (.int .i64 xb.1.x1)).setCell ⟨B6, 1, none⟩ (.int .i64 xb.1.y1)) = U1 at g5 g6 g4 g2 hxw ⊢
  clear s0 s1 s2 s3 f0 f1 f2 f3 c5 c6 d4 d2
  have c5 := g5
  have c6 := g6
  have d4 := g4
  have d2 := g2
  clear g5 g6 g4 g2
  clear hxn HXW D4 D2 C5 C6
  have a0 := cellOf c5 0
  have a1 := cellOf c5 1
  have a2 := cellOf c6 0
  have a3 := cellOf c6 1
  have s0 := cellOf d4 5
  have f0 := frzOf d4 5
  have s1 := cellOf d4 6
  have f1 := frzOf d4 6
  have s2 := cellOf d4 7
  have f2 := frzOf d4 7
  have s3 := cellOf d4 8
  have f3 := frzOf d4 8
  have s4 := cellOf d4 9
  have f4 := frzOf d4 9
  simp only [List.getElem?_toArray, List.getElem?_cons_zero, List.getElem?_cons_succ] at a0 a1 a2 a3 s0 s1 s2 s3 s4
  go_upto_region 7 with (fail)
  have g4 := (setCell_obj (setCell_obj (setCell_obj (setCell_obj (setCell_obj d4 5 (.int .i64 xb.1.x0)) 6 (.int .i64 xb.1.y0)) 7 (.int .i64 xb.1.x1)) 8 (.int .i64 xb.1.y1)) 9 (.int .i64 xb.2))
  simp only [List.setIfInBounds_toArray, List.set_cons_zero, List.set_cons_succ] at g4
  have g5 : (((((U1.setCell ⟨B4, 5, none⟩ (.int .i64 xb.1.x0)).setCell ⟨B4, 6, none⟩ (.int .i64 xb.1.y0)).setCell ⟨B4, 7, none⟩ (.int .i64 xb.1.x1)).setCell ⟨B4, 8, none⟩ (.int .i64 xb.1.y1)).setCell ⟨B4, 9, none⟩ (.int .i64 xb.2)).heap[B5]? = _ := ((setCell_ne 9 n54 _ none).trans ((setCell_ne 8 n54 _ none).trans ((setCell_ne 7 n54 _ none).trans ((setCell_ne 6 n54 _ none).trans ((setCell_ne 5 n54 _ none).trans c5)))))
  have g6 : (((((U1.setCell ⟨B4, 5, none⟩ (.int .i64 xb.1.x0)).setCell ⟨B4, 6, none⟩ (.int .i64 xb.1.y0)).setCell ⟨B4, 7, none⟩ (.int .i64 xb.1.x1)).setCell ⟨B4, 8, none⟩ (.int .i64 xb.1.y1)).setCell ⟨B4, 9, none⟩ (.int .i64 xb.2)).heap[B6]? = _ := ((setCell_ne 9 n64 _ none).trans ((setCell_ne 8 n64 _ none).trans ((setCell_ne 7 n64 _ none).trans ((setCell_ne 6 n64 _ none).trans ((setCell_ne 5 n64 _ none).trans c6)))))
  have g2 : (((((U1.setCell ⟨B4, 5, none⟩ (.int .i64 xb.1.x0)).setCell ⟨B4, 6, none⟩ (.int .i64 xb.1.y0)).setCell ⟨B4, 7, none⟩ (.int .i64 xb.1.x1)).setCell ⟨B4, 8, none⟩ (.int .i64 xb.1.y1)).setCell ⟨B4, 9, none⟩ (.int .i64 xb.2)).heap[B2]? = _ := ((setCell_ne 9 hB24 _ none).trans ((setCell_ne 8 hB24 _ none).trans ((setCell_ne 7 hB24 _ none).trans ((setCell_ne 6 hB24 _ none).trans ((setCell_ne 5 hB24 _ none).trans d2)))))
  have hxw := (((((hxw.setCell (p := ⟨B4, 5, none⟩) h24 (.int .i64 xb.1.x0)).setCell (p := ⟨B4, 6, none⟩) h24 (.int .i64 xb.1.y0)).setCell (p := ⟨B4, 7, none⟩) h24 (.int .i64 xb.1.x1)).setCell (p := ⟨B4, 8, none⟩) h24 (.int .i64 xb.1.y1)).setCell (p := ⟨B4, 9, none⟩) h24 (.int .i64 xb.2))
  generalize (((((U1.setCell ⟨B4, 5, none⟩ (.int .i64 xb.1.x0)).setCell ⟨B4, 6, none⟩ (.int .i64 xb.1.y0)).setCell ⟨B4, 7, none⟩ (.int .i64 xb.1.x1)).setCell ⟨B4, 8, none⟩ (.int .i64 xb.1.y1)).setCell ⟨B4, 9, none⟩ (.int .i64 xb.2)) = W2 at g5 g6 g4 g2 hxw ⊢
  clear a0 a1 a2 a3 s0 s1 s2 s3 s4 f0 f1 f2 f3 f4 c5 c6 d4 d2
  have c5 := g5
  have c6 := g6
  have d4 := g4
  have d2 := g2
  have HXW := Lib.hid hxw
  clear g5 g6 g4 g2 hxw
  have D4 := Lib.hid d4
  have D2 := Lib.hid d2
  clear d4 d2
  have C5 := Lib.hid c5
  have C6 := Lib.hid c6
  clear c5 c6
  go_wp2_with fail
  refine (endTreeB hM hO W2 HXW.out).mono ?_
  rintro e V2 ⟨xc, hy2, hz2, rfl, hxn⟩
  have d4 := hxn.obj D4.out
  have d2 := hxn.obj D2.out
  have hxw := HXW.out.trans hxn
  have c5 := hxn.obj C5.out
  have c6 := hxn.obj C6.out
  have s0 := cellOf c5 0
  have s1 := cellOf c5 1
  have f0 := frzOf c5 0
  have f1 := frzOf c5 1
  have s2 := cellOf c6 0
  have s3 := cellOf c6 1
  have f2 := frzOf c6 0
  have f3 := frzOf c6 1
  simp only [List.getElem?_toArray, List.getElem?_cons_zero, List.getElem?_cons_succ] at s0 s1 s2 s3
  go_upto_region 8 with (fail)
  have g5 : ((((V2.setCell ⟨B5, 0, none⟩ (.int .i64 xc.1.x0)).setCell ⟨B5, 1, none⟩ (.int .i64 xc.1.y0)).setCell ⟨B6, 0, none⟩ (.int .i64 xc.1.x1)).setCell ⟨B6, 1, none⟩ (.int .i64 xc.1.y1)).heap[B5]? = _ := ((setCell_ne 1 n56 _ none).trans ((setCell_ne 0 n56 _ none).trans (setCell_obj (setCell_obj c5 0 (.int .i64 xc.1.x0)) 1 (.int .i64 xc.1.y0))))
  have g6 : ((((V2.setCell ⟨B5, 0, none⟩ (.int .i64 xc.1.x0)).setCell ⟨B5, 1, none⟩ (.int .i64 xc.1.y0)).setCell ⟨B6, 0, none⟩ (.int .i64 xc.1.x1)).setCell ⟨B6, 1, none⟩ (.int .i64 xc.1.y1)).heap[B6]? = _ := (setCell_obj (setCell_obj ((setCell_ne 1 n65 _ none).trans ((setCell_ne 0 n65 _ none).trans c6)) 0 (.int .i64 xc.1.x1)) 1 (.int .i64 xc.1.y1))
  have g4 : ((((V2.setCell ⟨B5, 0, none⟩ (.int .i64 xc.1.x0)).setCell ⟨B5, 1, none⟩ (.int .i64 xc.1.y0)).setCell ⟨B6, 0, none⟩ (.int .i64 xc.1.x1)).setCell ⟨B6, 1, none⟩ (.int .i64 xc.1.y1)).heap[B4]? = _ := ((setCell_ne 1 n46 _ none).trans ((setCell_ne 0 n46 _ none).trans ((setCell_ne 1 n45 _ none).trans ((setCell_ne 0 n45 _ none).trans d4))))
  have g2 : ((((V2.setCell ⟨B5, 0, none⟩ (.int .i64 xc.1.x0)).setCell ⟨B5, 1, none⟩ (.int .i64 xc.1.y0)).setCell ⟨B6, 0, none⟩ (.int .i64 xc.1.x1)).setCell ⟨B6, 1, none⟩ (.int .i64 xc.1.y1)).heap[B2]? = _ := ((setCell_ne 1 n26 _ none).trans ((setCell_ne 0 n26 _ none).trans ((setCell_ne 1 n25 _ none).trans ((setCell_ne 0 n25 _ none).trans d2))))
  have hxw := ((((hxw.setCell (p := ⟨B5, 0, none⟩) h25 (.int .i64 xc.1.x0)).setCell (p := ⟨B5, 1, none⟩) h25 (.int .i64 xc.1.y0)).setCell (p := ⟨B6, 0, none⟩) h26 (.int .i64 xc.1.x1)).setCell (p := ⟨B6, 1, none⟩) h26 (.int .i64 xc.1.y1))
  simp only [List.setIfInBounds_toArray, List.set_cons_zero, List.set_cons_succ] at g5 g6
  generalize ((((V2.setCell ⟨B5, 0, none⟩ (.int .i64 xc.1.x0)).setCell ⟨B5, 1, none⟩ (.int .i64 xc.1.y0)).setCell ⟨B6, 0, none⟩ (.int .i64 xc.1.x1)).setCell ⟨B6, 1, none⟩ (.int .i64 xc.1.y1)) = U2 at g5 g6 g4 g2 hxw ⊢
  clear s0 s1 s2 s3 f0 f1 f2 f3 c5 c6 d4 d2
  have c5 := g5
  have c6 := g6
  have d4 := g4
  have d2 := g2
  clear g5 g6 g4 g2
  clear hxn HXW D4 D2 C5 C6
  have a0 := cellOf c5 0
  have a1 := cellOf c5 1
  have a2 := cellOf c6 0
  have a3 := cellOf c6 1
  have s0 := cellOf d4 10
  have f0 := frzOf d4 10
  have s1 := cellOf d4 11
  have f1 := frzOf d4 11
  have s2 := cellOf d4 12
  have f2 := frzOf d4 12
  have s3 := cellOf d4 13
  have f3 := frzOf d4 13
  have s4 := cellOf d4 14
  have f4 := frzOf d4 14
  simp only [List.getElem?_toArray, List.getElem?_cons_zero, List.getElem?_cons_succ] at a0 a1 a2 a3 s0 s1 s2 s3 s4
  go_upto_region 9 with (fail)
  have g4 := (setCell_obj (setCell_obj (setCell_obj (setCell_obj (setCell_obj d4 10 (.int .i64 xc.1.x0)) 11 (.int .i64 xc.1.y0)) 12 (.int .i64 xc.1.x1)) 13 (.int .i64 xc.1.y1)) 14 (.int .i64 xc.2))
  simp only [List.setIfInBounds_toArray, List.set_cons_zero, List.set_cons_succ] at g4
  have g5 : (((((U2.setCell ⟨B4, 10, none⟩ (.int .i64 xc.1.x0)).setCell ⟨B4, 11, none⟩ (.int .i64 xc.1.y0)).setCell ⟨B4, 12, none⟩ (.int .i64 xc.1.x1)).setCell ⟨B4, 13, none⟩ (.int .i64 xc.1.y1)).setCell ⟨B4, 14, none⟩ (.int .i64 xc.2)).heap[B5]? = _ := ((setCell_ne 14 n54 _ none).trans ((setCell_ne 13 n54 _ none).trans ((setCell_ne 12 n54 _ none).trans ((setCell_ne 11 n54 _ none).trans ((setCell_ne 10 n54 _ none).trans c5)))))
  have g6 : (((((U2.setCell ⟨B4, 10, none⟩ (.int .i64 xc.1.x0)).setCell ⟨B4, 11, none⟩ (.int .i64 xc.1.y0)).setCell ⟨B4, 12, none⟩ (.int .i64 xc.1.x1)).setCell ⟨B4, 13, none⟩ (.int .i64 xc.1.y1)).setCell ⟨B4, 14, none⟩ (.int .i64 xc.2)).heap[B6]? = _ := ((setCell_ne 14 n64 _ none).trans ((setCell_ne 13 n64 _ none).trans ((setCell_ne 12 n64 _ none).trans ((setCell_ne 11 n64 _ none).trans ((setCell_ne 10 n64 _ none).trans c6)))))
  have g2 : (((((U2.setCell ⟨B4, 10, none⟩ (.int .i64 xc.1.x0)).setCell ⟨B4, 11, none⟩ (.int .i64 xc.1.y0)).setCell ⟨B4, 12, none⟩ (.int .i64 xc.1.x1)).setCell ⟨B4, 13, none⟩ (.int .i64 xc.1.y1)).setCell ⟨B4, 14, none⟩ (.int .i64 xc.2)).heap[B2]? = _ := ((setCell_ne 14 hB24 _ none).trans ((setCell_ne 13 hB24 _ none).trans ((setCell_ne 12 hB24 _ none).trans ((setCell_ne 11 hB24 _ none).trans ((setCell_ne 10 hB24 _ none).trans d2)))))
  have hxw := (((((hxw.setCell (p := ⟨B4, 10, none⟩) h24 (.int .i64 xc.1.x0)).setCell (p := ⟨B4, 11, none⟩) h24 (.int .i64 xc.1.y0)).setCell (p := ⟨B4, 12, none⟩) h24 (.int .i64 xc.1.x1)).setCell (p := ⟨B4, 13, none⟩) h24 (.int .i64 xc.1.y1)).setCell (p := ⟨B4, 14, none⟩) h24 (.int .i64 xc.2))
  generalize (((((U2.setCell ⟨B4, 10, none⟩ (.int .i64 xc.1.x0)).setCell ⟨B4, 11, none⟩ (.int .i64 xc.1.y0)).setCell ⟨B4, 12, none⟩ (.int .i64 xc.1.x1)).setCell ⟨B4, 13, none⟩ (.int .i64 xc.1.y1)).setCell ⟨B4, 14, none⟩ (.int .i64 xc.2)) = W3 at g5 g6 g4 g2 hxw ⊢
  clear a0 a1 a2 a3 s0 s1 s2 s3 s4 f0 f1 f2 f3 f4 c5 c6 d4 d2
  have c5 := g5
  have c6 := g6
  have d4 := g4
  have d2 := g2
  have HXW := Lib.hid hxw
  clear g5 g6 g4 g2 hxw
  have D4 := Lib.hid d4
  have D2 := Lib.hid d2
  clear d4 d2
  have C5 := Lib.hid c5
  have C6 := Lib.hid c6
  clear c5 c6
  go_wp2_with fail
  refine (endTreeT hM hO W3 HXW.out).mono ?_
  rintro e V3 ⟨xd, hy3, hz3, rfl, hxn⟩
  have d4 := hxn.obj D4.out
  have d2 := hxn.obj D2.out
  have hxw := HXW.out.trans hxn
  have c5 := hxn.obj C5.out
  have c6 := hxn.obj C6.out
  have s0 := cellOf c5 0
  have s1 := cellOf c5 1
  have f0 := frzOf c5 0
  have f1 := frzOf c5 1
  have s2 := cellOf c6 0
  have s3 := cellOf c6 1
  have f2 := frzOf c6 0
  have f3 := frzOf c6 1
  simp only [List.getElem?_toArray, List.getElem?_cons_zero, List.getElem?_cons_succ] at s0 s1 s2 s3
  go_upto_region 10 with (fail)
  have g5 : ((((V3.setCell ⟨B5, 0, none⟩ (.int .i64 xd.1.x0)).setCell ⟨B5, 1, none⟩ (.int .i64 xd.1.y0)).setCell ⟨B6, 0, none⟩ (.int .i64 xd.1.x1)).setCell ⟨B6, 1, none⟩ (.int .i64 xd.1.y1)).heap[B5]? = _ := ((setCell_ne 1 n56 _ none).trans ((setCell_ne 0 n56 _ none).trans (setCell_obj (setCell_obj c5 0 (.int .i64 xd.1.x0)) 1 (.int .i64 xd.1.y0))))
  have g6 : ((((V3.setCell ⟨B5, 0, none⟩ (.int .i64 xd.1.x0)).setCell ⟨B5, 1, none⟩ (.int .i64 xd.1.y0)).setCell ⟨B6, 0, none⟩ (.int .i64 xd.1.x1)).setCell ⟨B6, 1, none⟩ (.int .i64 xd.1.y1)).heap[B6]? = _ := (setCell_obj (setCell_obj ((setCell_ne 1 n65 _ none).trans ((setCell_ne 0 n65 _ none).trans c6)) 0 (.int .i64 xd.1.x1)) 1 (.int .i64 xd.1.y1))
  have g4 : ((((V3.setCell ⟨B5, 0, none⟩ (.int .i64 xd.1.x0)).setCell ⟨B5, 1, none⟩ (.int .i64 xd.1.y0)).setCell ⟨B6, 0, none⟩ (.int .i64 xd.1.x1)).setCell ⟨B6, 1, none⟩ (.int .i64 xd.1.y1)).heap[B4]? = _ := ((setCell_ne 1 n46 _ none).trans ((setCell_ne 0 n46 _ none).trans ((setCell_ne 1 n45 _ none).trans ((setCell_ne 0 n45 _ none).trans d4))))
  have g2 : ((((V3.setCell ⟨B5, 0, none⟩ (.int .i64 xd.1.x0)).setCell ⟨B5, 1, none⟩ (.int .i64 xd.1.y0)).setCell ⟨B6, 0, none⟩ (.int .i64 xd.1.x1)).setCell ⟨B6, 1, none⟩ (.int .i64 xd.1.y1)).heap[B2]? = _ := ((setCell_ne 1 n26 _ none).trans ((setCell_ne 0 n26 _ none).trans ((setCell_ne 1 n25 _ none).trans ((setCell_ne 0 n25 _ none).trans d2))))
  have hxw := ((((hxw.setCell (p := ⟨B5, 0, none⟩) h25 (.int .i64 xd.1.x0)).setCell (p := ⟨B5, 1, none⟩) h25 (.int .i64 xd.1.y0)).setCell (p := ⟨B6, 0, none⟩) h26 (.int .i64 xd.1.x1)).setCell (p := ⟨B6, 1, none⟩) h26 (.int .i64 xd.1.y1))
  simp only [List.setIfInBounds_toArray, List.set_cons_zero, List.set_cons_succ] at g5 g6
  generalize ((((V3.setCell ⟨B5, 0, none⟩ (.int .i64 xd.1.x0)).setCell ⟨B5, 1, none⟩ (.int .i64 xd.1.y0)).setCell ⟨B6, 0, none⟩ (.int .i64 xd.1.x1)).setCell ⟨B6, 1, none⟩ (.int .i64 xd.1.y1)) = U3 at g5 g6 g4 g2 hxw ⊢
  clear s0 s1 s2 s3 f0 f1 f2 f3 c5 c6 d4 d2
  have c5 := g5
  have c6 := g6
  have d4 := g4
  have d2 := g2
  clear g5 g6 g4 g2
  clear hxn HXW D4 D2 C5 C6
  have a0 := cellOf c5 0
  have a1 := cellOf c5 1
  have a2 := cellOf c6 0
  have a3 := cellOf c6 1
  have s0 := cellOf d4 15
  have f0 := frzOf d4 15
  have s1 := cellOf d4 16
  have f1 := frzOf d4 16
  have s2 := cellOf d4 17
  have f2 := frzOf d4 17
  have s3 := cellOf d4 18
  have f3 := frzOf d4 18
  have s4 := cellOf d4 19
  have f4 := frzOf d4 19
  simp only [List.getElem?_toArray, List.getElem?_cons_zero, List.getElem?_cons_succ] at a0 a1 a2 a3 s0 s1 s2 s3 s4
  go_upto_region 11 with (fail)
  have g4 := (setCell_obj (setCell_obj (setCell_obj (setCell_obj (setCell_obj d4 15 (.int .i64 xd.1.x0)) 16 (.int .i64 xd.1.y0)) 17 (.int .i64 xd.1.x1)) 18 (.int .i64 xd.1.y1)) 19 (.int .i64 xd.2))
  simp only [List.setIfInBounds_toArray, List.set_cons_zero, List.set_cons_succ] at g4
  have g5 : (((((U3.setCell ⟨B4, 15, none⟩ (.int .i64 xd.1.x0)).setCell ⟨B4, 16, none⟩ (.int .i64 xd.1.y0)).setCell ⟨B4, 17, none⟩ (.int .i64 xd.1.x1)).setCell ⟨B4, 18, none⟩ (.int .i64 xd.1.y1)).setCell ⟨B4, 19, none⟩ (.int .i64 xd.2)).heap[B5]? = _ := ((setCell_ne 19 n54 _ none).trans ((setCell_ne 18 n54 _ none).trans ((setCell_ne 17 n54 _ none).trans ((setCell_ne 16 n54 _ none).trans ((setCell_ne 15 n54 _ none).trans c5)))))
  have g6 : (((((U3.setCell ⟨B4, 15, none⟩ (.int .i64 xd.1.x0)).setCell ⟨B4, 16, none⟩ (.int .i64 xd.1.y0)).setCell ⟨B4, 17, none⟩ (.int .i64 xd.1.x1)).setCell ⟨B4, 18, none⟩ (.int .i64 xd.1.y1)).setCell ⟨B4, 19, none⟩ (.int .i64 xd.2)).heap[B6]? = _ := ((setCell_ne 19 n64 _ none).trans ((setCell_ne 18 n64 _ none).trans ((setCell_ne 17 n64 _ none).trans ((setCell_ne 16 n64 _ none).trans ((setCell_ne 15 n64 _ none).trans c6)))))
  have g2 : (((((U3.setCell ⟨B4, 15, none⟩ (.int .i64 xd.1.x0)).setCell ⟨B4, 16, none⟩ (.int .i64 xd.1.y0)).setCell ⟨B4, 17, none⟩ (.int .i64 xd.1.x1)).setCell ⟨B4, 18, none⟩ (.int .i64 xd.1.y1)).setCell ⟨B4, 19, none⟩ (.int .i64 xd.2)).heap[B2]? = _ := ((setCell_ne 19 hB24 _ none).trans ((setCell_ne 18 hB24 _ none).trans ((setCell_ne 17 hB24 _ none).trans ((setCell_ne 16 hB24 _ none).trans ((setCell_ne 15 hB24 _ none).trans d2)))))
  have hxw := (((((hxw.setCell (p := ⟨B4, 15, none⟩) h24 (.int .i64 xd.1.x0)).setCell (p := ⟨B4, 16, none⟩) h24 (.int .i64 xd.1.y0)).setCell (p := ⟨B4, 17, none⟩) h24 (.int .i64 xd.1.x1)).setCell (p := ⟨B4, 18, none⟩) h24 (.int .i64 xd.1.y1)).setCell (p := ⟨B4, 19, none⟩) h24 (.int .i64 xd.2))
  generalize (((((U3.setCell ⟨B4, 15, none⟩ (.int .i64 xd.1.x0)).setCell ⟨B4, 16, none⟩ (.int .i64 xd.1.y0)).setCell ⟨B4, 17, none⟩ (.int .i64 xd.1.x1)).setCell ⟨B4, 18, none⟩ (.int .i64 xd.1.y1)).setCell ⟨B4, 19, none⟩ (.int .i64 xd.2)) = W4 at g5 g6 g4 g2 hxw ⊢
  clear a0 a1 a2 a3 s0 s1 s2 s3 s4 f0 f1 f2 f3 f4 c5 c6 d4 d2
  have c5 := g5
  have c6 := g6
  have d4 := g4
  have d2 := g2
  have HXW := Lib.hid hxw
  clear g5 g6 g4 g2 hxw
  obtain ⟨C, hC⟩ : ∃ C : Array Value, C = #[.int .i64 xa.1.x0, .int .i64 xa.1.y0, .int .i64 xa.1.x1, .int .i64 xa.1.y1, .int .i64 xa.2, .int .i64 xb.1.x0, .int .i64 xb.1.y0, .int .i64 xb.1.x1, .int .i64 xb.1.y1, .int .i64 xb.2, .int .i64 xc.1.x0, .int .i64 xc.1.y0, .int .i64 xc.1.x1, .int .i64 xc.1.y1, .int .i64 xc.2, .int .i64 xd.1.x0, .int .i64 xd.1.y0, .int .i64 xd.1.x1, .int .i64 xd.1.y1, .int .i64 xd.2] := ⟨_, rfl⟩
  obtain ⟨C0, hC0⟩ : ∃ C : Array Value, C = #[.int .i64 0, .int .i64 0, .int .i64 0, .int .i64 0, .int .i64 0, .int .i64 0, .int .i64 0, .int .i64 0, .int .i64 0, .int .i64 0, .int .i64 0, .int .i64 0, .int .i64 0, .int .i64 0, .int .i64 0, .int .i64 0, .int .i64 0, .int .i64 0, .int .i64 0, .int .i64 0] := ⟨_, rfl⟩
  have d4 : W4.heap[B4]? = some (.cells C 63 (0, 0)) := by rw [hC]; exact d4
  have d2 : W4.heap[B2]? = some (.cells C0 63 (0, 0)) := by rw [hC0]; exact d2
  have s1 : (Try.prog.info? 63).map (·.size) = some C.size := by rw [hC]; exact size_ends
  have s2 : C.all (·.oneCell') = true := by rw [hC]; simp [Value.oneCell']
  have s3 : C0.size = C.size := by rw [hC, hC0]; rfl
  have hwB2 : w.heap.size ≤ B2 := by omega
  have HXE := Lib.hid (ex_setRow (HX2.out.trans HXW.out) hwB2 C)
  have HC := Lib.hid hC
  have G2 := Lib.hid (setRow_heap W4 B2 C0 C _ _ d2)
  have HE : EndsOf (itT T) xa xb xc xd := ⟨fun h => ⟨hy0 h, hy1 h, hy2 h, hy3 h⟩, fun h => ⟨hz0 h, hz1 h, hz2 h, hz3 h⟩⟩
  clear c5 c6 hy0 hy1 hy2 hy3 hz0 hz1 hz2 hz3 hC hC0
  go_wp2_with (first
    | (refine wpList_load_row (o := ⟨some 58, _, _, _, _, _⟩) rfl 63 (.tmp 4) rfl B4 rfl _ C _ _ d4 Try.underlying63 rfl s1 ?_)
    | (refine wpList_store_row (o := ⟨none, .store 63 _ _, _, _, _, _⟩) rfl 63 (.tmp 2) (.tmp 58) rfl B2 C rfl rfl _ C0 d2 s1 s3 s2 ?_))
  refine bodyPost_ret (v := .agg C) (results_cell_row Try.results34 _ _ B2 63 C (0, 0) _ rfl G2.out Try.underlying63 rfl s1) rfl ?_
  first
    | exact ⟨xa, xb, xc, xd, HE, by rw [HC.out], HXE.out⟩
    | exact ⟨xa.1, xa.2, xb.1, xb.2, xc.1, xc.2, xd.1, xd.2, HE, by rw [HC.out], HXE.out⟩
end Go.Proofs.Ytboeldlilkeihaa
