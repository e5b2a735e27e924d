/- The contract of Copy. -/
import Derived.Test.YtboeldlilkeihaaGrow
import Derived.Test.YtboeldlilkeihaaRefB
import Derived.Test.YtboeldlilkeihaaStage
set_option linter.unusedSimpArgs false
set_option linter.unusedVariables false
namespace Go.Proofs.Ytboeldlilkeihaa
open Go.RowKit Go.Bx
set_option maxRecDepth 100000 in
set_option maxHeartbeats 3200000 in
theorem copyW_c (w : World) (tr : Nat) (cnt : Int) (r : R) (ra : Option Addr) (hT : w.heap[tr]? = some (.cells #[.int .u64 0, .int .i64 cnt, .int .i64 r.x0, .int .i64 r.y0, .int .i64 r.x1, .int .i64 r.y1, (.pointer ra), .int .i64 0, .pointer none] 95 (0, 0))) :
    Calls Try.prog 46 #[.pointer (some ⟨tr, 0, none⟩)] w fun e w' => ∃ tr2 C : Nat, e = .returned (.pointer (some ⟨tr2, 0, none⟩)) ∧ w'.heap[tr]? = some (.cells #[.int .u64 1, .int .i64 cnt, .int .i64 r.x0, .int .i64 r.y0, .int .i64 r.x1, .int .i64 r.y1, (.pointer ra), .int .i64 0, .pointer (some ⟨C, 0, none⟩)] 95 (0, 0)) ∧ w'.heap[tr2]? = some (.cells #[.int .u64 2, .int .i64 cnt, .int .i64 r.x0, .int .i64 r.y0, .int .i64 r.x1, .int .i64 r.y1, (.pointer ra), .int .i64 0, .pointer (some ⟨C, 0, none⟩)] 95 (0, 0)) ∧ w.heap.size ≤ tr2 ∧ Chg (fun b => b = tr) w w' := by
  have htl := (Array.getElem?_eq_some_iff.1 hT).1
  have a8 := cellOf hT 8
  have f8 := frzOf hT 8
  simp only [List.getElem?_toArray, List.getElem?_cons_zero, List.getElem?_cons_succ] at a8
  obtain ⟨C, hC⟩ : ∃ C, w.heap.size = C := ⟨_, rfl⟩
  have hT1 := setCell_obj hT 8 (.pointer (some ⟨C, 0, none⟩))
  simp only [List.setIfInBounds_toArray, List.set_cons_zero, List.set_cons_succ] at hT1
  have hs1 : (w.setCell ⟨tr, 8, none⟩ (.pointer (some ⟨C, 0, none⟩))).heap.size = C := by rw [World.size_setCell]; exact hC
  have hxa := (Mix.Ex.refl (w.setCell ⟨tr, 8, none⟩ (.pointer (some ⟨C, 0, none⟩)))).alloc (.cells #[.int .u64 0] 89)
  have nC := heap_alloc_new (w.setCell ⟨tr, 8, none⟩ (.pointer (some ⟨C, 0, none⟩))) (.cells #[.int .u64 0] 89)
  rw [hs1] at nC
  have hT2 := hxa.obj hT1
  have hc1 : Chg (fun b => b = tr) w (w.setCell ⟨tr, 8, none⟩ (.pointer (some ⟨C, 0, none⟩))) := (Chg.refl (fun b => b = tr) w).setCell (x := ⟨tr, 8, none⟩) (.inl rfl) (.pointer (some ⟨C, 0, none⟩))
  have hc2 := hc1.trans (Chg.ex hxa)
  have hs2 : ((w.setCell ⟨tr, 8, none⟩ (.pointer (some ⟨C, 0, none⟩))).alloc (.cells #[.int .u64 0] 89)).heap.size = C + 1 := by rw [World.size_alloc, hs1]
  have hCt : C ≠ tr := by omega
  have htlC : tr < C := by omega
  have HT2 := Lib.hid hT2
  have NC2 := Lib.hid nC
  have HC2 := Lib.hid hc2
  clear hT hT1 hs1 hxa nC hT2 hc1 hc2
  go_enter Try.func46, Try.ntmps46
  go_upto_region 2 with (fail)
  go_upto_region 3 with (fail)
  try rw [hC]
  change Code.wp _ _ _ _ ((w.setCell ⟨tr, 8, none⟩ (.pointer (some ⟨C, 0, none⟩))).alloc (.cells #[.int .u64 0] 89))
  generalize ((w.setCell ⟨tr, 8, none⟩ (.pointer (some ⟨C, 0, none⟩))).alloc (.cells #[.int .u64 0] 89)) = w2 at HT2 NC2 HC2 hs2 ⊢
  clear a8 f8
  have hxb := (Mix.Ex.refl w2).alloc (.cells #[.int .u64 0, .int .i64 0, .int .i64 0, .int .i64 0, .int .i64 0, .int .i64 0, .pointer none, .int .i64 0, .pointer none] 95)
  have nD := heap_alloc_new w2 (.cells #[.int .u64 0, .int .i64 0, .int .i64 0, .int .i64 0, .int .i64 0, .int .i64 0, .pointer none, .int .i64 0, .pointer none] 95)
  have hT3 := hxb.obj HT2.out
  have nC3 := hxb.obj NC2.out
  have hc3 : Chg (fun b => b = tr) w (w2.alloc (.cells #[.int .u64 0, .int .i64 0, .int .i64 0, .int .i64 0, .int .i64 0, .int .i64 0, .pointer none, .int .i64 0, .pointer none] 95)) := HC2.out.trans (Chg.ex hxb)
  clear HT2 NC2 HC2 hxb
  go_upto_region 4 with (fail)
  change Code.wp _ _ _ _ (w2.alloc (.cells #[.int .u64 0, .int .i64 0, .int .i64 0, .int .i64 0, .int .i64 0, .int .i64 0, .pointer none, .int .i64 0, .pointer none] 95))
  obtain ⟨D, hD⟩ : ∃ D, C + 1 = D := ⟨_, rfl⟩
  rw [hs2, hD] at nD
  try rw [hs2]
  rw [hD]
  generalize (w2.alloc (.cells #[.int .u64 0, .int .i64 0, .int .i64 0, .int .i64 0, .int .i64 0, .int .i64 0, .pointer none, .int .i64 0, .pointer none] 95)) = w3 at nD hT3 nC3 hc3 ⊢
  clear hs2
  have hDt : tr ≠ D := by omega
  have hDC : C ≠ D := by omega
  have hwD : w.heap.size ≤ D := by omega
  have hwC : w.heap.size ≤ C := by omega
  have a0 := cellOf hT3 0
  have d0 := cellOf nD 0
  have f0 := frzOf nD 0
  have a1 := cellOf hT3 1
  have d1 := cellOf nD 1
  have f1 := frzOf nD 1
  have a2 := cellOf hT3 2
  have d2 := cellOf nD 2
  have f2 := frzOf nD 2
  have a3 := cellOf hT3 3
  have d3 := cellOf nD 3
  have f3 := frzOf nD 3
  have a4 := cellOf hT3 4
  have d4 := cellOf nD 4
  have f4 := frzOf nD 4
  have a5 := cellOf hT3 5
  have d5 := cellOf nD 5
  have f5 := frzOf nD 5
  have a6 := cellOf hT3 6
  have d6 := cellOf nD 6
  have f6 := frzOf nD 6
  have a7 := cellOf hT3 7
  have d7 := cellOf nD 7
  have f7 := frzOf nD 7
  have a8 := cellOf hT3 8
  have d8 := cellOf nD 8
  have f8 := frzOf nD 8
  simp only [List.getElem?_toArray, List.getElem?_cons_zero, List.getElem?_cons_succ] at a0 d0 a1 d1 a2 d2 a3 d3 a4 d4 a5 d5 a6 d6 a7 d7 a8 d8
  have nD4 := (setCell_obj (setCell_obj (setCell_obj (setCell_obj (setCell_obj (setCell_obj (setCell_obj (setCell_obj (setCell_obj nD 0 (.int .u64 0)) 1 (.int .i64 cnt)) 2 (.int .i64 r.x0)) 3 (.int .i64 r.y0)) 4 (.int .i64 r.x1)) 5 (.int .i64 r.y1)) 6 ((.pointer ra))) 7 (.int .i64 0)) 8 (.pointer (some ⟨C, 0, none⟩)))
  simp only [List.setIfInBounds_toArray, List.set_cons_zero, List.set_cons_succ] at nD4
  have hT4 : (((((((((w3.setCell ⟨D, 0, none⟩ (.int .u64 0)).setCell ⟨D, 1, none⟩ (.int .i64 cnt)).setCell ⟨D, 2, none⟩ (.int .i64 r.x0)).setCell ⟨D, 3, none⟩ (.int .i64 r.y0)).setCell ⟨D, 4, none⟩ (.int .i64 r.x1)).setCell ⟨D, 5, none⟩ (.int .i64 r.y1)).setCell ⟨D, 6, none⟩ ((.pointer ra))).setCell ⟨D, 7, none⟩ (.int .i64 0)).setCell ⟨D, 8, none⟩ (.pointer (some ⟨C, 0, none⟩))).heap[tr]? = _ := ((setCell_ne 8 hDt (.pointer (some ⟨C, 0, none⟩)) none).trans ((setCell_ne 7 hDt (.int .i64 0) none).trans ((setCell_ne 6 hDt ((.pointer ra)) none).trans ((setCell_ne 5 hDt (.int .i64 r.y1) none).trans ((setCell_ne 4 hDt (.int .i64 r.x1) none).trans ((setCell_ne 3 hDt (.int .i64 r.y0) none).trans ((setCell_ne 2 hDt (.int .i64 r.x0) none).trans ((setCell_ne 1 hDt (.int .i64 cnt) none).trans ((setCell_ne 0 hDt (.int .u64 0) none).trans hT3)))))))))
  have nC4 : (((((((((w3.setCell ⟨D, 0, none⟩ (.int .u64 0)).setCell ⟨D, 1, none⟩ (.int .i64 cnt)).setCell ⟨D, 2, none⟩ (.int .i64 r.x0)).setCell ⟨D, 3, none⟩ (.int .i64 r.y0)).setCell ⟨D, 4, none⟩ (.int .i64 r.x1)).setCell ⟨D, 5, none⟩ (.int .i64 r.y1)).setCell ⟨D, 6, none⟩ ((.pointer ra))).setCell ⟨D, 7, none⟩ (.int .i64 0)).setCell ⟨D, 8, none⟩ (.pointer (some ⟨C, 0, none⟩))).heap[C]? = _ := ((setCell_ne 8 hDC (.pointer (some ⟨C, 0, none⟩)) none).trans ((setCell_ne 7 hDC (.int .i64 0) none).trans ((setCell_ne 6 hDC ((.pointer ra)) none).trans ((setCell_ne 5 hDC (.int .i64 r.y1) none).trans ((setCell_ne 4 hDC (.int .i64 r.x1) none).trans ((setCell_ne 3 hDC (.int .i64 r.y0) none).trans ((setCell_ne 2 hDC (.int .i64 r.x0) none).trans ((setCell_ne 1 hDC (.int .i64 cnt) none).trans ((setCell_ne 0 hDC (.int .u64 0) none).trans nC3)))))))))
  have hc4 := (((((((((hc3.setCell (x := ⟨D, 0, none⟩) (.inr hwD) (.int .u64 0)).setCell (x := ⟨D, 1, none⟩) (.inr hwD) (.int .i64 cnt)).setCell (x := ⟨D, 2, none⟩) (.inr hwD) (.int .i64 r.x0)).setCell (x := ⟨D, 3, none⟩) (.inr hwD) (.int .i64 r.y0)).setCell (x := ⟨D, 4, none⟩) (.inr hwD) (.int .i64 r.x1)).setCell (x := ⟨D, 5, none⟩) (.inr hwD) (.int .i64 r.y1)).setCell (x := ⟨D, 6, none⟩) (.inr hwD) ((.pointer ra))).setCell (x := ⟨D, 7, none⟩) (.inr hwD) (.int .i64 0)).setCell (x := ⟨D, 8, none⟩) (.inr hwD) (.pointer (some ⟨C, 0, none⟩)))
  have ND := Lib.hid nD4
  have HT := Lib.hid hT4
  have NC := Lib.hid nC4
  have HC := Lib.hid hc4
  clear nD4 hT4 nC4 hc4 nD hT3 nC3 hc3
  go_upto_region 5 with (fail)
  generalize (((((((((w3.setCell ⟨D, 0, none⟩ (.int .u64 0)).setCell ⟨D, 1, none⟩ (.int .i64 cnt)).setCell ⟨D, 2, none⟩ (.int .i64 r.x0)).setCell ⟨D, 3, none⟩ (.int .i64 r.y0)).setCell ⟨D, 4, none⟩ (.int .i64 r.x1)).setCell ⟨D, 5, none⟩ (.int .i64 r.y1)).setCell ⟨D, 6, none⟩ ((.pointer ra))).setCell ⟨D, 7, none⟩ (.int .i64 0)).setCell ⟨D, 8, none⟩ (.pointer (some ⟨C, 0, none⟩))) = w4 at ND HT NC HC ⊢
  clear a0 d0 f0 a1 d1 f1 a2 d2 f2 a3 d3 f3 a4 d4 f4 a5 d5 f5 a6 d6 f6 a7 d7 f7 a8 d8 f8
  have t8 := cellOf HT.out 8
  have c0 := cellOf NC.out 0
  have g0 := frzOf NC.out 0
  have t0 := cellOf HT.out 0
  have h0 := frzOf HT.out 0
  have e0 := cellOf ND.out 0
  have k0 := frzOf ND.out 0
  simp only [List.getElem?_toArray, List.getElem?_cons_zero, List.getElem?_cons_succ] at t8 c0 t0 e0
  have ntr : (w4.setCell ⟨C, 0, none⟩ (.int .u64 1)).heap[tr]? = _ := (setCell_ne 0 (Ne.symm hCt) (.int .u64 1) none).trans HT.out
  have nC := setCell_obj NC.out 0 (.int .u64 1)
  simp only [List.setIfInBounds_toArray, List.set_cons_zero, List.set_cons_succ] at nC
  have nD : (w4.setCell ⟨C, 0, none⟩ (.int .u64 1)).heap[D]? = _ := (setCell_ne 0 (Ne.symm hDC) (.int .u64 1) none).trans ND.out
  have nH := HC.out.setCell (x := ⟨C, 0, none⟩) (.inr hwC) (.int .u64 1)
  have HT1 := Lib.hid ntr
  have NC1 := Lib.hid nC
  have ND1 := Lib.hid nD
  have HC1 := Lib.hid nH
  clear ntr nC nD nH HT NC ND HC
  go_upto_region 6 with (fail)
  generalize (w4.setCell ⟨C, 0, none⟩ (.int .u64 1)) = w5 at HT1 NC1 ND1 HC1 ⊢
  clear t8 c0 g0 t0 h0 e0 k0
  have HT := HT1
  have NC := NC1
  have ND := ND1
  have HC := HC1
  clear HT1 NC1 ND1 HC1
  have t8 := cellOf HT.out 8
  have c0 := cellOf NC.out 0
  have g0 := frzOf NC.out 0
  have t0 := cellOf HT.out 0
  have h0 := frzOf HT.out 0
  have e0 := cellOf ND.out 0
  have k0 := frzOf ND.out 0
  simp only [List.getElem?_toArray, List.getElem?_cons_zero, List.getElem?_cons_succ] at t8 c0 t0 e0
  have ntr := setCell_obj HT.out 0 (.int .u64 1)
  simp only [List.setIfInBounds_toArray, List.set_cons_zero, List.set_cons_succ] at ntr
  have nC : (w5.setCell ⟨tr, 0, none⟩ (.int .u64 1)).heap[C]? = _ := (setCell_ne 0 hCt (.int .u64 1) none).trans NC.out
  have nD : (w5.setCell ⟨tr, 0, none⟩ (.int .u64 1)).heap[D]? = _ := (setCell_ne 0 (Ne.symm hDt) (.int .u64 1) none).trans ND.out
  have nH := HC.out.setCell (x := ⟨tr, 0, none⟩) (.inl rfl) (.int .u64 1)
  have HT1 := Lib.hid ntr
  have NC1 := Lib.hid nC
  have ND1 := Lib.hid nD
  have HC1 := Lib.hid nH
  clear ntr nC nD nH HT NC ND HC
  go_upto_region 7 with (fail)
  generalize (w5.setCell ⟨tr, 0, none⟩ (.int .u64 1)) = w6 at HT1 NC1 ND1 HC1 ⊢
  clear t8 c0 g0 t0 h0 e0 k0
  have HT := HT1
  have NC := NC1
  have ND := ND1
  have HC := HC1
  clear HT1 NC1 ND1 HC1
  have t8 := cellOf HT.out 8
  have c0 := cellOf NC.out 0
  have g0 := frzOf NC.out 0
  have t0 := cellOf HT.out 0
  have h0 := frzOf HT.out 0
  have e0 := cellOf ND.out 0
  have k0 := frzOf ND.out 0
  simp only [List.getElem?_toArray, List.getElem?_cons_zero, List.getElem?_cons_succ] at t8 c0 t0 e0
  have ntr : (w6.setCell ⟨C, 0, none⟩ (.int .u64 2)).heap[tr]? = _ := (setCell_ne 0 (Ne.symm hCt) (.int .u64 2) none).trans HT.out
  have nC := setCell_obj NC.out 0 (.int .u64 2)
  simp only [List.setIfInBounds_toArray, List.set_cons_zero, List.set_cons_succ] at nC
  have nD : (w6.setCell ⟨C, 0, none⟩ (.int .u64 2)).heap[D]? = _ := (setCell_ne 0 (Ne.symm hDC) (.int .u64 2) none).trans ND.out
  have nH := HC.out.setCell (x := ⟨C, 0, none⟩) (.inr hwC) (.int .u64 2)
  have HT1 := Lib.hid ntr
  have NC1 := Lib.hid nC
  have ND1 := Lib.hid nD
  have HC1 := Lib.hid nH
  clear ntr nC nD nH HT NC ND HC
  go_upto_region 8 with (fail)
  generalize (w6.setCell ⟨C, 0, none⟩ (.int .u64 2)) = w7 at HT1 NC1 ND1 HC1 ⊢
  clear t8 c0 g0 t0 h0 e0 k0
  have HT := HT1
  have NC := NC1
  have ND := ND1
  have HC := HC1
  clear HT1 NC1 ND1 HC1
  have t8 := cellOf HT.out 8
  have c0 := cellOf NC.out 0
  have g0 := frzOf NC.out 0
  have t0 := cellOf HT.out 0
  have h0 := frzOf HT.out 0
  have e0 := cellOf ND.out 0
  have k0 := frzOf ND.out 0
  simp only [List.getElem?_toArray, List.getElem?_cons_zero, List.getElem?_cons_succ] at t8 c0 t0 e0
  have ntr : (w7.setCell ⟨D, 0, none⟩ (.int .u64 2)).heap[tr]? = _ := (setCell_ne 0 hDt (.int .u64 2) none).trans HT.out
  have nC : (w7.setCell ⟨D, 0, none⟩ (.int .u64 2)).heap[C]? = _ := (setCell_ne 0 hDC (.int .u64 2) none).trans NC.out
  have nD := setCell_obj ND.out 0 (.int .u64 2)
  simp only [List.setIfInBounds_toArray, List.set_cons_zero, List.set_cons_succ] at nD
  have nH := HC.out.setCell (x := ⟨D, 0, none⟩) (.inr hwD) (.int .u64 2)
  have HT1 := Lib.hid ntr
  have NC1 := Lib.hid nC
  have ND1 := Lib.hid nD
  have HC1 := Lib.hid nH
  clear ntr nC nD nH HT NC ND HC
  go_wp2_with fail
  generalize (w7.setCell ⟨D, 0, none⟩ (.int .u64 2)) = w8 at HT1 NC1 ND1 HC1 ⊢
  clear t8 c0 g0 t0 h0 e0 k0
  have HT := HT1
  have NC := NC1
  have ND := ND1
  have HC := HC1
  clear HT1 NC1 ND1 HC1
  go_ret
  exact ⟨D, C, rfl, HT.out, ND.out, hwD, HC.out⟩
end Go.Proofs.Ytboeldlilkeihaa
