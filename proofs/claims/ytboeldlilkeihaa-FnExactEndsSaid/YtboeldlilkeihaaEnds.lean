/- The contracts of LeftMost, BottomMost, RightMost, TopMost. -/
import Derived.Test.YtboeldlilkeihaaMin
import Derived.Test.YtboeldlilkeihaaZSrch
set_option linter.unusedSimpArgs false
set_option linter.unusedVariables false
namespace Go.Proofs.Ytboeldlilkeihaa
open Go.RowKit Go.Bx
set_option maxRecDepth 100000 in
set_option maxHeartbeats 1600000 in
theorem endTreeL {c : Int} {Z : Nat → Prop} {w0 : World} {tr : Nat} {T : Tre} {cw : Value} {s : Nat → Prop} (hM : TreeM c Z w0 tr T cw s) (hO : TreOk T) (w : World) (hx : Mix.Ex w0 w) :
    Calls Try.prog 48 #[.pointer (some ⟨tr, 0, none⟩)] w fun e w' => ∃ x : R × Int, (itT T ≠ [] → ExL (itT T) x) ∧ (itT T = [] → x = (R0, 0)) ∧ e = .returned (.tuple #[.agg #[.int .i64 x.1.x0, .int .i64 x.1.y0], .agg #[.int .i64 x.1.x1, .int .i64 x.1.y1], .int .i64 x.2]) ∧ Mix.Ex w w' := by
  obtain ⟨rt, hTr, hR⟩ := hM.at_
  have hTw := hTr.ex hx
  unfold TreeAt at hTw
  obtain ⟨cnt, rc, root⟩ := T
  dsimp only at hR
  have hxa := ((Mix.Ex.refl w).alloc (.cells #[.int .i64 0, .int .i64 0] 28)).alloc (.cells #[.int .i64 0, .int .i64 0] 28)
  have n5 := ((Mix.Ex.refl (w.alloc (.cells #[.int .i64 0, .int .i64 0] 28))).alloc (.cells #[.int .i64 0, .int .i64 0] 28)).obj (heap_alloc_new w (.cells #[.int .i64 0, .int .i64 0] 28))
  have n6 := heap_alloc_new (w.alloc (.cells #[.int .i64 0, .int .i64 0] 28)) (.cells #[.int .i64 0, .int .i64 0] 28)
  rw [World.size_alloc] at n6
  have hTa := hxa.obj hTw
  obtain ⟨B5, hB5⟩ : ∃ B5, w.heap.size = B5 := ⟨_, rfl⟩
  obtain ⟨B6, hB6⟩ : ∃ B6, w.heap.size + 1 = B6 := ⟨_, rfl⟩
  rw [hB6] at n6
  rw [hB5] at n5
  have h6 : ((w.alloc (.cells #[.int .i64 0, .int .i64 0] 28)).alloc (.cells #[.int .i64 0, .int .i64 0] 28)).cell? ⟨tr, 6, none⟩ = some rt := by rw [cellOf hTa]; rfl
  have HB5 := Lib.hid hB5
  have HB6 := Lib.hid hB6
  clear hTw hTa hTr hB5 hB6
  cases root with
  | none =>
    obtain ⟨rfl, -⟩ := hR
    have hi : itT ⟨cnt, rc, none⟩ = [] := rfl
    rw [hi]
    go_enter Try.func48, Try.ntmps48
    go_upto_region 1 with (fail)
    change Code.wp _ _ _ _ ((w.alloc (.cells #[.int .i64 0, .int .i64 0] 28)).alloc (.cells #[.int .i64 0, .int .i64 0] 28))
    generalize ((w.alloc (.cells #[.int .i64 0, .int .i64 0] 28)).alloc (.cells #[.int .i64 0, .int .i64 0] 28)) = w1 at hxa n5 n6 h6 ⊢
    rw [HB6.out, HB5.out]
    have a0 := cellOf n5 0
    have a1 := cellOf n5 1
    have a2 := cellOf n6 0
    have a3 := cellOf n6 1
    simp only [List.getElem?_toArray, List.getElem?_cons_zero, List.getElem?_cons_succ] at a0 a1 a2 a3
    go_wp2_with fail
    refine bodyPost_ret (v := .tuple #[.agg #[.int .i64 0, .int .i64 0], .agg #[.int .i64 0, .int .i64 0], .int .i64 0]) (by simp [results, Try.results48, go_sem, a0, a1, a2, a3]) rfl (by first | exact ⟨(R0, 0), fun h => absurd rfl h, fun _ => rfl, rfl, hxa⟩ | exact ⟨R0, 0, fun h => absurd rfl h, fun _ => rfl, rfl, hxa⟩)
  | some q =>
    have hRO := hO.root (q := q) rfl
    obtain ⟨h, t⟩ := q
    have hi : itT ⟨cnt, rc, some ⟨h, t⟩⟩ = itsN h t := rfl
    rw [hi]
    have hE : ElAt c Z w0 (h + 1) rt t s := hR
    obtain ⟨p, rfl⟩ := hE.ptr
    obtain ⟨hr1, hr2, hr3⟩ := hRO
    dsimp only at hr1 hr2 hr3
    have hne : itsN h t ≠ [] := fun e => hr2.ne (by rw [e]; rfl)
    have hI := endAllL c Z w0 h _ t s hE hr1 hr3
    have HNE := Lib.hid hne
    clear hE hR hr1 hr2 hr3 hM hO hne
    go_enter Try.func48, Try.ntmps48
    go_upto_region 1 with (fail)
    change Code.wp _ _ _ _ ((w.alloc (.cells #[.int .i64 0, .int .i64 0] 28)).alloc (.cells #[.int .i64 0, .int .i64 0] 28))
    generalize ((w.alloc (.cells #[.int .i64 0, .int .i64 0] 28)).alloc (.cells #[.int .i64 0, .int .i64 0] 28)) = w1 at hxa n5 n6 h6 ⊢
    rw [HB6.out, HB5.out]
    have hI := hI w1 (hx.trans hxa)
    have HN5 := Lib.hid n5
    have HN6 := Lib.hid n6
    have HXW := Lib.hid hxa
    have hb5 := HB5.out
    have hb6 := HB6.out
    have hbb : B5 ≠ B6 := by omega
    have hwB5 : w.heap.size ≤ B5 := by omega
    have hwB6 : w.heap.size ≤ B6 := by omega
    clear n5 n6 hxa hb5 hb6 hx
    go_wp2_with fail
    refine hI.mono ?_
    rintro e wA ⟨x, hxm, rfl, hxA⟩
    have m5 := hxA.obj HN5.out
    have m6 := hxA.obj HN6.out
    have hXA := HXW.out.trans hxA
    have s0 := cellOf m5 0
    have s1 := cellOf m5 1
    have s2 := cellOf m6 0
    have s3 := cellOf m6 1
    simp only [List.getElem?_toArray, List.getElem?_cons_zero, List.getElem?_cons_succ] at s0 s1 s2 s3
    have f0 := frzOf m5 0
    have f1 := frzOf m5 1
    have f2 := frzOf m6 0
    have f3 := frzOf m6 1
    have z5 := setCell_obj (setCell_obj m5 0 (.int .i64 x.1.x0)) 1 (.int .i64 x.1.y0)
    have z6 : ((wA.setCell ⟨B5, 0, none⟩ (.int .i64 x.1.x0)).setCell ⟨B5, 1, none⟩ (.int .i64 x.1.y0)).heap[B6]? = _ := ((setCell_ne 1 (Ne.symm hbb) _ none).trans (setCell_ne 0 (Ne.symm hbb) _ none)).trans m6
    have y6 := setCell_obj (setCell_obj z6 0 (.int .i64 x.1.x1)) 1 (.int .i64 x.1.y1)
    have y5 : ((((wA.setCell ⟨B5, 0, none⟩ (.int .i64 x.1.x0)).setCell ⟨B5, 1, none⟩ (.int .i64 x.1.y0)).setCell ⟨B6, 0, none⟩ (.int .i64 x.1.x1)).setCell ⟨B6, 1, none⟩ (.int .i64 x.1.y1)).heap[B5]? = _ := ((setCell_ne 1 hbb _ none).trans (setCell_ne 0 hbb _ none)).trans z5
    simp only [List.setIfInBounds_toArray, List.set_cons_zero, List.set_cons_succ] at y6 y5
    have hX3 := (((hXA.setCell (p := ⟨B5, 0, none⟩) hwB5 (.int .i64 x.1.x0)).setCell (p := ⟨B5, 1, none⟩) hwB5 (.int .i64 x.1.y0)).setCell (p := ⟨B6, 0, none⟩) hwB6 (.int .i64 x.1.x1)).setCell (p := ⟨B6, 1, none⟩) hwB6 (.int .i64 x.1.y1)
    have Y5 := Lib.hid y5
    have Y6 := Lib.hid y6
    have HX3 := Lib.hid hX3
    clear z5 z6 y5 y6 hX3 m5 m6 hxA hXA
    go_wp2_with fail
    have a0 := cellOf Y5.out 0
    have a1 := cellOf Y5.out 1
    have a2 := cellOf Y6.out 0
    have a3 := cellOf Y6.out 1
    simp only [List.getElem?_toArray, List.getElem?_cons_zero, List.getElem?_cons_succ] at a0 a1 a2 a3
    refine bodyPost_ret (v := .tuple #[.agg #[.int .i64 x.1.x0, .int .i64 x.1.y0], .agg #[.int .i64 x.1.x1, .int .i64 x.1.y1], .int .i64 x.2]) (by simp [results, Try.results48, go_sem, a0, a1, a2, a3]) rfl (by first | exact ⟨x, fun _ => hxm, fun e => absurd e HNE.out, rfl, HX3.out⟩ | exact ⟨x.1, x.2, fun _ => hxm, fun e => absurd e HNE.out, rfl, HX3.out⟩)
set_option maxRecDepth 100000 in
set_option maxHeartbeats 1600000 in
theorem endTreeB {c : Int} {Z : Nat → Prop} {w0 : World} {tr : Nat} {T : Tre} {cw : Value} {s : Nat → Prop} (hM : TreeM c Z w0 tr T cw s) (hO : TreOk T) (w : World) (hx : Mix.Ex w0 w) :
    Calls Try.prog 50 #[.pointer (some ⟨tr, 0, none⟩)] w fun e w' => ∃ x : R × Int, (itT T ≠ [] → ExB (itT T) x) ∧ (itT T = [] → x = (R0, 0)) ∧ e = .returned (.tuple #[.agg #[.int .i64 x.1.x0, .int .i64 x.1.y0], .agg #[.int .i64 x.1.x1, .int .i64 x.1.y1], .int .i64 x.2]) ∧ Mix.Ex w w' := by
  obtain ⟨rt, hTr, hR⟩ := hM.at_
  have hTw := hTr.ex hx
  unfold TreeAt at hTw
  obtain ⟨cnt, rc, root⟩ := T
  dsimp only at hR
  have hxa := ((Mix.Ex.refl w).alloc (.cells #[.int .i64 0, .int .i64 0] 28)).alloc (.cells #[.int .i64 0, .int .i64 0] 28)
  have n5 := ((Mix.Ex.refl (w.alloc (.cells #[.int .i64 0, .int .i64 0] 28))).alloc (.cells #[.int .i64 0, .int .i64 0] 28)).obj (heap_alloc_new w (.cells #[.int .i64 0, .int .i64 0] 28))
  have n6 := heap_alloc_new (w.alloc (.cells #[.int .i64 0, .int .i64 0] 28)) (.cells #[.int .i64 0, .int .i64 0] 28)
  rw [World.size_alloc] at n6
  have hTa := hxa.obj hTw
  obtain ⟨B5, hB5⟩ : ∃ B5, w.heap.size = B5 := ⟨_, rfl⟩
  obtain ⟨B6, hB6⟩ : ∃ B6, w.heap.size + 1 = B6 := ⟨_, rfl⟩
  rw [hB6] at n6
  rw [hB5] at n5
  have h6 : ((w.alloc (.cells #[.int .i64 0, .int .i64 0] 28)).alloc (.cells #[.int .i64 0, .int .i64 0] 28)).cell? ⟨tr, 6, none⟩ = some rt := by rw [cellOf hTa]; rfl
  have HB5 := Lib.hid hB5
  have HB6 := Lib.hid hB6
  clear hTw hTa hTr hB5 hB6
  cases root with
  | none =>
    obtain ⟨rfl, -⟩ := hR
    have hi : itT ⟨cnt, rc, none⟩ = [] := rfl
    rw [hi]
    go_enter Try.func50, Try.ntmps50
    go_upto_region 1 with (fail)
    change Code.wp _ _ _ _ ((w.alloc (.cells #[.int .i64 0, .int .i64 0] 28)).alloc (.cells #[.int .i64 0, .int .i64 0] 28))
    generalize ((w.alloc (.cells #[.int .i64 0, .int .i64 0] 28)).alloc (.cells #[.int .i64 0, .int .i64 0] 28)) = w1 at hxa n5 n6 h6 ⊢
    rw [HB6.out, HB5.out]
    have a0 := cellOf n5 0
    have a1 := cellOf n5 1
    have a2 := cellOf n6 0
    have a3 := cellOf n6 1
    simp only [List.getElem?_toArray, List.getElem?_cons_zero, List.getElem?_cons_succ] at a0 a1 a2 a3
    go_wp2_with fail
    refine bodyPost_ret (v := .tuple #[.agg #[.int .i64 0, .int .i64 0], .agg #[.int .i64 0, .int .i64 0], .int .i64 0]) (by simp [results, Try.results50, go_sem, a0, a1, a2, a3]) rfl (by first | exact ⟨(R0, 0), fun h => absurd rfl h, fun _ => rfl, rfl, hxa⟩ | exact ⟨R0, 0, fun h => absurd rfl h, fun _ => rfl, rfl, hxa⟩)
  | some q =>
    have hRO := hO.root (q := q) rfl
    obtain ⟨h, t⟩ := q
    have hi : itT ⟨cnt, rc, some ⟨h, t⟩⟩ = itsN h t := rfl
    rw [hi]
    have hE : ElAt c Z w0 (h + 1) rt t s := hR
    obtain ⟨p, rfl⟩ := hE.ptr
    obtain ⟨hr1, hr2, hr3⟩ := hRO
    dsimp only at hr1 hr2 hr3
    have hne : itsN h t ≠ [] := fun e => hr2.ne (by rw [e]; rfl)
    have hI := endAllB c Z w0 h _ t s hE hr1 hr3
    have HNE := Lib.hid hne
    clear hE hR hr1 hr2 hr3 hM hO hne
    go_enter Try.func50, Try.ntmps50
    go_upto_region 1 with (fail)
    change Code.wp _ _ _ _ ((w.alloc (.cells #[.int .i64 0, .int .i64 0] 28)).alloc (.cells #[.int .i64 0, .int .i64 0] 28))
    generalize ((w.alloc (.cells #[.int .i64 0, .int .i64 0] 28)).alloc (.cells #[.int .i64 0, .int .i64 0] 28)) = w1 at hxa n5 n6 h6 ⊢
    rw [HB6.out, HB5.out]
    have hI := hI w1 (hx.trans hxa)
    have HN5 := Lib.hid n5
    have HN6 := Lib.hid n6
    have HXW := Lib.hid hxa
    have hb5 := HB5.out
    have hb6 := HB6.out
    have hbb : B5 ≠ B6 := by omega
    have hwB5 : w.heap.size ≤ B5 := by omega
    have hwB6 : w.heap.size ≤ B6 := by omega
    clear n5 n6 hxa hb5 hb6 hx
    go_wp2_with fail
    refine hI.mono ?_
    rintro e wA ⟨x, hxm, rfl, hxA⟩
    have m5 := hxA.obj HN5.out
    have m6 := hxA.obj HN6.out
    have hXA := HXW.out.trans hxA
    have s0 := cellOf m5 0
    have s1 := cellOf m5 1
    have s2 := cellOf m6 0
    have s3 := cellOf m6 1
    simp only [List.getElem?_toArray, List.getElem?_cons_zero, List.getElem?_cons_succ] at s0 s1 s2 s3
    have f0 := frzOf m5 0
    have f1 := frzOf m5 1
    have f2 := frzOf m6 0
    have f3 := frzOf m6 1
    have z5 := setCell_obj (setCell_obj m5 0 (.int .i64 x.1.x0)) 1 (.int .i64 x.1.y0)
    have z6 : ((wA.setCell ⟨B5, 0, none⟩ (.int .i64 x.1.x0)).setCell ⟨B5, 1, none⟩ (.int .i64 x.1.y0)).heap[B6]? = _ := ((setCell_ne 1 (Ne.symm hbb) _ none).trans (setCell_ne 0 (Ne.symm hbb) _ none)).trans m6
    have y6 := setCell_obj (setCell_obj z6 0 (.int .i64 x.1.x1)) 1 (.int .i64 x.1.y1)
    have y5 : ((((wA.setCell ⟨B5, 0, none⟩ (.int .i64 x.1.x0)).setCell ⟨B5, 1, none⟩ (.int .i64 x.1.y0)).setCell ⟨B6, 0, none⟩ (.int .i64 x.1.x1)).setCell ⟨B6, 1, none⟩ (.int .i64 x.1.y1)).heap[B5]? = _ := ((setCell_ne 1 hbb _ none).trans (setCell_ne 0 hbb _ none)).trans z5
    simp only [List.setIfInBounds_toArray, List.set_cons_zero, List.set_cons_succ] at y6 y5
    have hX3 := (((hXA.setCell (p := ⟨B5, 0, none⟩) hwB5 (.int .i64 x.1.x0)).setCell (p := ⟨B5, 1, none⟩) hwB5 (.int .i64 x.1.y0)).setCell (p := ⟨B6, 0, none⟩) hwB6 (.int .i64 x.1.x1)).setCell (p := ⟨B6, 1, none⟩) hwB6 (.int .i64 x.1.y1)
    have Y5 := Lib.hid y5
    have Y6 := Lib.hid y6
    have HX3 := Lib.hid hX3
    clear z5 z6 y5 y6 hX3 m5 m6 hxA hXA
    go_wp2_with fail
    have a0 := cellOf Y5.out 0
    have a1 := cellOf Y5.out 1
    have a2 := cellOf Y6.out 0
    have a3 := cellOf Y6.out 1
    simp only [List.getElem?_toArray, List.getElem?_cons_zero, List.getElem?_cons_succ] at a0 a1 a2 a3
    refine bodyPost_ret (v := .tuple #[.agg #[.int .i64 x.1.x0, .int .i64 x.1.y0], .agg #[.int .i64 x.1.x1, .int .i64 x.1.y1], .int .i64 x.2]) (by simp [results, Try.results50, go_sem, a0, a1, a2, a3]) rfl (by first | exact ⟨x, fun _ => hxm, fun e => absurd e HNE.out, rfl, HX3.out⟩ | exact ⟨x.1, x.2, fun _ => hxm, fun e => absurd e HNE.out, rfl, HX3.out⟩)
set_option maxRecDepth 100000 in
set_option maxHeartbeats 1600000 in
theorem endTreeR {c : Int} {Z : Nat → Prop} {w0 : World} {tr : Nat} {T : Tre} {cw : Value} {s : Nat → Prop} (hM : TreeM c Z w0 tr T cw s) (hO : TreOk T) (w : World) (hx : Mix.Ex w0 w) :
    Calls Try.prog 49 #[.pointer (some ⟨tr, 0, none⟩)] w fun e w' => ∃ x : R × Int, (itT T ≠ [] → ExR (itT T) x) ∧ (itT T = [] → x = (R0, 0)) ∧ e = .returned (.tuple #[.agg #[.int .i64 x.1.x0, .int .i64 x.1.y0], .agg #[.int .i64 x.1.x1, .int .i64 x.1.y1], .int .i64 x.2]) ∧ Mix.Ex w w' := by
  obtain ⟨rt, hTr, hR⟩ := hM.at_
  have hTw := hTr.ex hx
  unfold TreeAt at hTw
  obtain ⟨cnt, rc, root⟩ := T
  dsimp only at hR
  have hxa := ((Mix.Ex.refl w).alloc (.cells #[.int .i64 0, .int .i64 0] 28)).alloc (.cells #[.int .i64 0, .int .i64 0] 28)
  have n5 := ((Mix.Ex.refl (w.alloc (.cells #[.int .i64 0, .int .i64 0] 28))).alloc (.cells #[.int .i64 0, .int .i64 0] 28)).obj (heap_alloc_new w (.cells #[.int .i64 0, .int .i64 0] 28))
  have n6 := heap_alloc_new (w.alloc (.cells #[.int .i64 0, .int .i64 0] 28)) (.cells #[.int .i64 0, .int .i64 0] 28)
  rw [World.size_alloc] at n6
  have hTa := hxa.obj hTw
  obtain ⟨B5, hB5⟩ : ∃ B5, w.heap.size = B5 := ⟨_, rfl⟩
  obtain ⟨B6, hB6⟩ : ∃ B6, w.heap.size + 1 = B6 := ⟨_, rfl⟩
  rw [hB6] at n6
  rw [hB5] at n5
  have h6 : ((w.alloc (.cells #[.int .i64 0, .int .i64 0] 28)).alloc (.cells #[.int .i64 0, .int .i64 0] 28)).cell? ⟨tr, 6, none⟩ = some rt := by rw [cellOf hTa]; rfl
  have HB5 := Lib.hid hB5
  have HB6 := Lib.hid hB6
  clear hTw hTa hTr hB5 hB6
  cases root with
  | none =>
    obtain ⟨rfl, -⟩ := hR
    have hi : itT ⟨cnt, rc, none⟩ = [] := rfl
    rw [hi]
    go_enter Try.func49, Try.ntmps49
    go_upto_region 1 with (fail)
    change Code.wp _ _ _ _ ((w.alloc (.cells #[.int .i64 0, .int .i64 0] 28)).alloc (.cells #[.int .i64 0, .int .i64 0] 28))
    generalize ((w.alloc (.cells #[.int .i64 0, .int .i64 0] 28)).alloc (.cells #[.int .i64 0, .int .i64 0] 28)) = w1 at hxa n5 n6 h6 ⊢
    rw [HB6.out, HB5.out]
    have a0 := cellOf n5 0
    have a1 := cellOf n5 1
    have a2 := cellOf n6 0
    have a3 := cellOf n6 1
    simp only [List.getElem?_toArray, List.getElem?_cons_zero, List.getElem?_cons_succ] at a0 a1 a2 a3
    go_wp2_with fail
    refine bodyPost_ret (v := .tuple #[.agg #[.int .i64 0, .int .i64 0], .agg #[.int .i64 0, .int .i64 0], .int .i64 0]) (by simp [results, Try.results49, go_sem, a0, a1, a2, a3]) rfl (by first | exact ⟨(R0, 0), fun h => absurd rfl h, fun _ => rfl, rfl, hxa⟩ | exact ⟨R0, 0, fun h => absurd rfl h, fun _ => rfl, rfl, hxa⟩)
  | some q =>
    have hRO := hO.root (q := q) rfl
    obtain ⟨h, t⟩ := q
    have hi : itT ⟨cnt, rc, some ⟨h, t⟩⟩ = itsN h t := rfl
    rw [hi]
    have hE : ElAt c Z w0 (h + 1) rt t s := hR
    obtain ⟨p, rfl⟩ := hE.ptr
    obtain ⟨hr1, hr2, hr3⟩ := hRO
    dsimp only at hr1 hr2 hr3
    have hne : itsN h t ≠ [] := fun e => hr2.ne (by rw [e]; rfl)
    have hI := endAllR c Z w0 h _ t s hE hr1 hr3
    have HNE := Lib.hid hne
    clear hE hR hr1 hr2 hr3 hM hO hne
    go_enter Try.func49, Try.ntmps49
    go_upto_region 1 with (fail)
    change Code.wp _ _ _ _ ((w.alloc (.cells #[.int .i64 0, .int .i64 0] 28)).alloc (.cells #[.int .i64 0, .int .i64 0] 28))
    generalize ((w.alloc (.cells #[.int .i64 0, .int .i64 0] 28)).alloc (.cells #[.int .i64 0, .int .i64 0] 28)) = w1 at hxa n5 n6 h6 ⊢
    rw [HB6.out, HB5.out]
    have hI := hI w1 (hx.trans hxa)
    have HN5 := Lib.hid n5
    have HN6 := Lib.hid n6
    have HXW := Lib.hid hxa
    have hb5 := HB5.out
    have hb6 := HB6.out
    have hbb : B5 ≠ B6 := by omega
    have hwB5 : w.heap.size ≤ B5 := by omega
    have hwB6 : w.heap.size ≤ B6 := by omega
    clear n5 n6 hxa hb5 hb6 hx
    go_wp2_with fail
    refine hI.mono ?_
    rintro e wA ⟨x, hxm, rfl, hxA⟩
    have m5 := hxA.obj HN5.out
    have m6 := hxA.obj HN6.out
    have hXA := HXW.out.trans hxA
    have s0 := cellOf m5 0
    have s1 := cellOf m5 1
    have s2 := cellOf m6 0
    have s3 := cellOf m6 1
    simp only [List.getElem?_toArray, List.getElem?_cons_zero, List.getElem?_cons_succ] at s0 s1 s2 s3
    have f0 := frzOf m5 0
    have f1 := frzOf m5 1
    have f2 := frzOf m6 0
    have f3 := frzOf m6 1
    have z5 := setCell_obj (setCell_obj m5 0 (.int .i64 x.1.x0)) 1 (.int .i64 x.1.y0)
    have z6 : ((wA.setCell ⟨B5, 0, none⟩ (.int .i64 x.1.x0)).setCell ⟨B5, 1, none⟩ (.int .i64 x.1.y0)).heap[B6]? = _ := ((setCell_ne 1 (Ne.symm hbb) _ none).trans (setCell_ne 0 (Ne.symm hbb) _ none)).trans m6
    have y6 := setCell_obj (setCell_obj z6 0 (.int .i64 x.1.x1)) 1 (.int .i64 x.1.y1)
    have y5 : ((((wA.setCell ⟨B5, 0, none⟩ (.int .i64 x.1.x0)).setCell ⟨B5, 1, none⟩ (.int .i64 x.1.y0)).setCell ⟨B6, 0, none⟩ (.int .i64 x.1.x1)).setCell ⟨B6, 1, none⟩ (.int .i64 x.1.y1)).heap[B5]? = _ := ((setCell_ne 1 hbb _ none).trans (setCell_ne 0 hbb _ none)).trans z5
    simp only [List.setIfInBounds_toArray, List.set_cons_zero, List.set_cons_succ] at y6 y5
    have hX3 := (((hXA.setCell (p := ⟨B5, 0, none⟩) hwB5 (.int .i64 x.1.x0)).setCell (p := ⟨B5, 1, none⟩) hwB5 (.int .i64 x.1.y0)).setCell (p := ⟨B6, 0, none⟩) hwB6 (.int .i64 x.1.x1)).setCell (p := ⟨B6, 1, none⟩) hwB6 (.int .i64 x.1.y1)
    have Y5 := Lib.hid y5
    have Y6 := Lib.hid y6
    have HX3 := Lib.hid hX3
    clear z5 z6 y5 y6 hX3 m5 m6 hxA hXA
    go_wp2_with fail
    have a0 := cellOf Y5.out 0
    have a1 := cellOf Y5.out 1
    have a2 := cellOf Y6.out 0
    have a3 := cellOf Y6.out 1
    simp only [List.getElem?_toArray, List.getElem?_cons_zero, List.getElem?_cons_succ] at a0 a1 a2 a3
    refine bodyPost_ret (v := .tuple #[.agg #[.int .i64 x.1.x0, .int .i64 x.1.y0], .agg #[.int .i64 x.1.x1, .int .i64 x.1.y1], .int .i64 x.2]) (by simp [results, Try.results49, go_sem, a0, a1, a2, a3]) rfl (by first | exact ⟨x, fun _ => hxm, fun e => absurd e HNE.out, rfl, HX3.out⟩ | exact ⟨x.1, x.2, fun _ => hxm, fun e => absurd e HNE.out, rfl, HX3.out⟩)
set_option maxRecDepth 100000 in
set_option maxHeartbeats 1600000 in
theorem endTreeT {c : Int} {Z : Nat → Prop} {w0 : World} {tr : Nat} {T : Tre} {cw : Value} {s : Nat → Prop} (hM : TreeM c Z w0 tr T cw s) (hO : TreOk T) (w : World) (hx : Mix.Ex w0 w) :
    Calls Try.prog 51 #[.pointer (some ⟨tr, 0, none⟩)] w fun e w' => ∃ x : R × Int, (itT T ≠ [] → ExT (itT T) x) ∧ (itT T = [] → x = (R0, 0)) ∧ e = .returned (.tuple #[.agg #[.int .i64 x.1.x0, .int .i64 x.1.y0], .agg #[.int .i64 x.1.x1, .int .i64 x.1.y1], .int .i64 x.2]) ∧ Mix.Ex w w' := by
  obtain ⟨rt, hTr, hR⟩ := hM.at_
  have hTw := hTr.ex hx
  unfold TreeAt at hTw
  obtain ⟨cnt, rc, root⟩ := T
  dsimp only at hR
  have hxa := ((Mix.Ex.refl w).alloc (.cells #[.int .i64 0, .int .i64 0] 28)).alloc (.cells #[.int .i64 0, .int .i64 0] 28)
  have n5 := ((Mix.Ex.refl (w.alloc (.cells #[.int .i64 0, .int .i64 0] 28))).alloc (.cells #[.int .i64 0, .int .i64 0] 28)).obj (heap_alloc_new w (.cells #[.int .i64 0, .int .i64 0] 28))
  have n6 := heap_alloc_new (w.alloc (.cells #[.int .i64 0, .int .i64 0] 28)) (.cells #[.int .i64 0, .int .i64 0] 28)
  rw [World.size_alloc] at n6
  have hTa := hxa.obj hTw
  obtain ⟨B5, hB5⟩ : ∃ B5, w.heap.size = B5 := ⟨_, rfl⟩
  obtain ⟨B6, hB6⟩ : ∃ B6, w.heap.size + 1 = B6 := ⟨_, rfl⟩
  rw [hB6] at n6
  rw [hB5] at n5
  have h6 : ((w.alloc (.cells #[.int .i64 0, .int .i64 0] 28)).alloc (.cells #[.int .i64 0, .int .i64 0] 28)).cell? ⟨tr, 6, none⟩ = some rt := by rw [cellOf hTa]; rfl
  have HB5 := Lib.hid hB5
  have HB6 := Lib.hid hB6
  clear hTw hTa hTr hB5 hB6
  cases root with
  | none =>
    obtain ⟨rfl, -⟩ := hR
    have hi : itT ⟨cnt, rc, none⟩ = [] := rfl
    rw [hi]
    go_enter Try.func51, Try.ntmps51
    go_upto_region 1 with (fail)
    change Code.wp _ _ _ _ ((w.alloc (.cells #[.int .i64 0, .int .i64 0] 28)).alloc (.cells #[.int .i64 0, .int .i64 0] 28))
    generalize ((w.alloc (.cells #[.int .i64 0, .int .i64 0] 28)).alloc (.cells #[.int .i64 0, .int .i64 0] 28)) = w1 at hxa n5 n6 h6 ⊢
    rw [HB6.out, HB5.out]
    have a0 := cellOf n5 0
    have a1 := cellOf n5 1
    have a2 := cellOf n6 0
    have a3 := cellOf n6 1
    simp only [List.getElem?_toArray, List.getElem?_cons_zero, List.getElem?_cons_succ] at a0 a1 a2 a3
    go_wp2_with fail
    refine bodyPost_ret (v := .tuple #[.agg #[.int .i64 0, .int .i64 0], .agg #[.int .i64 0, .int .i64 0], .int .i64 0]) (by simp [results, Try.results51, go_sem, a0, a1, a2, a3]) rfl (by first | exact ⟨(R0, 0), fun h => absurd rfl h, fun _ => rfl, rfl, hxa⟩ | exact ⟨R0, 0, fun h => absurd rfl h, fun _ => rfl, rfl, hxa⟩)
  | some q =>
    have hRO := hO.root (q := q) rfl
    obtain ⟨h, t⟩ := q
    have hi : itT ⟨cnt, rc, some ⟨h, t⟩⟩ = itsN h t := rfl
    rw [hi]
    have hE : ElAt c Z w0 (h + 1) rt t s := hR
    obtain ⟨p, rfl⟩ := hE.ptr
    obtain ⟨hr1, hr2, hr3⟩ := hRO
    dsimp only at hr1 hr2 hr3
    have hne : itsN h t ≠ [] := fun e => hr2.ne (by rw [e]; rfl)
    have hI := endAllT c Z w0 h _ t s hE hr1 hr3
    have HNE := Lib.hid hne
    clear hE hR hr1 hr2 hr3 hM hO hne
    go_enter Try.func51, Try.ntmps51
    go_upto_region 1 with (fail)
    change Code.wp _ _ _ _ ((w.alloc (.cells #[.int .i64 0, .int .i64 0] 28)).alloc (.cells #[.int .i64 0, .int .i64 0] 28))
    generalize ((w.alloc (.cells #[.int .i64 0, .int .i64 0] 28)).alloc (.cells #[.int .i64 0, .int .i64 0] 28)) = w1 at hxa n5 n6 h6 ⊢
    rw [HB6.out, HB5.out]
    have hI := hI w1 (hx.trans hxa)
    have HN5 := Lib.hid n5
    have HN6 := Lib.hid n6
    have HXW := Lib.hid hxa
    have hb5 := HB5.out
    have hb6 := HB6.out
    have hbb : B5 ≠ B6 := by omega
    have hwB5 : w.heap.size ≤ B5 := by omega
    have hwB6 : w.heap.size ≤ B6 := by omega
    clear n5 n6 hxa hb5 hb6 hx
    go_wp2_with fail
    refine hI.mono ?_
    rintro e wA ⟨x, hxm, rfl, hxA⟩
    have m5 := hxA.obj HN5.out
    have m6 := hxA.obj HN6.out
    have hXA := HXW.out.trans hxA
    have s0 := cellOf m5 0
    have s1 := cellOf m5 1
    have s2 := cellOf m6 0
    have s3 := cellOf m6 1
    simp only [List.getElem?_toArray, List.getElem?_cons_zero, List.getElem?_cons_succ] at s0 s1 s2 s3
    have f0 := frzOf m5 0
    have f1 := frzOf m5 1
    have f2 := frzOf m6 0
    have f3 := frzOf m6 1
    have z5 := setCell_obj (setCell_obj m5 0 (.int .i64 x.1.x0)) 1 (.int .i64 x.1.y0)
    have z6 : ((wA.setCell ⟨B5, 0, none⟩ (.int .i64 x.1.x0)).setCell ⟨B5, 1, none⟩ (.int .i64 x.1.y0)).heap[B6]? = _ := ((setCell_ne 1 (Ne.symm hbb) _ none).trans (setCell_ne 0 (Ne.symm hbb) _ none)).trans m6
    have y6 := setCell_obj (setCell_obj z6 0 (.int .i64 x.1.x1)) 1 (.int .i64 x.1.y1)
    have y5 : ((((wA.setCell ⟨B5, 0, none⟩ (.int .i64 x.1.x0)).setCell ⟨B5, 1, none⟩ (.int .i64 x.1.y0)).setCell ⟨B6, 0, none⟩ (.int .i64 x.1.x1)).setCell ⟨B6, 1, none⟩ (.int .i64 x.1.y1)).heap[B5]? = _ := ((setCell_ne 1 hbb _ none).trans (setCell_ne 0 hbb _ none)).trans z5
    simp only [List.setIfInBounds_toArray, List.set_cons_zero, List.set_cons_succ] at y6 y5
    have hX3 := (((hXA.setCell (p := ⟨B5, 0, none⟩) hwB5 (.int .i64 x.1.x0)).setCell (p := ⟨B5, 1, none⟩) hwB5 (.int .i64 x.1.y0)).setCell (p := ⟨B6, 0, none⟩) hwB6 (.int .i64 x.1.x1)).setCell (p := ⟨B6, 1, none⟩) hwB6 (.int .i64 x.1.y1)
    have Y5 := Lib.hid y5
    have Y6 := Lib.hid y6
    have HX3 := Lib.hid hX3
    clear z5 z6 y5 y6 hX3 m5 m6 hxA hXA
    go_wp2_with fail
    have a0 := cellOf Y5.out 0
    have a1 := cellOf Y5.out 1
    have a2 := cellOf Y6.out 0
    have a3 := cellOf Y6.out 1
    simp only [List.getElem?_toArray, List.getElem?_cons_zero, List.getElem?_cons_succ] at a0 a1 a2 a3
    refine bodyPost_ret (v := .tuple #[.agg #[.int .i64 x.1.x0, .int .i64 x.1.y0], .agg #[.int .i64 x.1.x1, .int .i64 x.1.y1], .int .i64 x.2]) (by simp [results, Try.results51, go_sem, a0, a1, a2, a3]) rfl (by first | exact ⟨x, fun _ => hxm, fun e => absurd e HNE.out, rfl, HX3.out⟩ | exact ⟨x.1, x.2, fun _ => hxm, fun e => absurd e HNE.out, rfl, HX3.out⟩)
end Go.Proofs.Ytboeldlilkeihaa
