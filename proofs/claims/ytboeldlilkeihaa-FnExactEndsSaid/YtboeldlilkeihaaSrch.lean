/- The contract of search: the items that meet a box, in order. -/
import Derived.Test.YtboeldlilkeihaaScan
set_option linter.unusedSimpArgs false
set_option linter.unusedVariables false
namespace Go.Bx
theorem intersects_comm (r s : R) : r.intersects s = s.intersects r := by
  unfold R.intersects
  rw [Bool.eq_iff_iff]
  simp
  omega
/-- A box that misses the greater one misses what lies in it. -/
theorem intersects_in {r s t : R} (h : r.contains t = true) (k : s.intersects r = false) : t.intersects s = false := by
  rw [contains_iff] at h
  cases hh : t.intersects s with
  | false => rfl
  | true =>
    have : s.intersects r = true := by
      unfold R.intersects at hh ⊢
      simp at hh ⊢
      omega
    rw [this] at k; cases k
def hit (s : R) (x : R × Int) : Bool := x.1.intersects s
theorem hit_none {h : Nat} {r s : R} {e : El h} (hw : Wf h r e) (k : s.intersects r = false) : (its h r e).filter (hit s) = [] := by
  rw [List.filter_eq_nil_iff]
  intro x hx hh
  have hc := hw.bd.le (List.mem_map.2 ⟨x, hx, rfl⟩)
  have := intersects_in hc k
  unfold hit at hh
  rw [this] at hh; cases hh
end Go.Bx
namespace Go.Proofs.Ytboeldlilkeihaa
open Go.RowKit Go.Bx
theorem rectAt_of_block {w : World} {b : Nat} {r : R} {T : TypeId} (h : w.heap[b]? = some (.cells (boxV r).toArray T (0, 0))) : RectAt w b 0 r :=
  ⟨by rw [cellOf h]; rfl, by rw [cellOf h]; rfl, by rw [cellOf h]; rfl, by rw [cellOf h]; rfl⟩
/-- What search does at a node of height h. -/
def SearchC (c : Int) (Z : Nat → Prop) (w0 : World) (base pb pd : Nat) (sR : R) (h : Nat) : Prop :=
  ∀ (v : Value) (t : Nde (El h)) (s : Nat → Prop), ElAt c Z w0 (h + 1) v t s → WfN h t → ∀ (w : World) (L : List (R × Int)), Coll w base pb pd L → Mix.Ex w0 w → L.length + (itsN h t).length ≤ 900000 →
    Calls Try.prog 72 #[v, .agg #[.int .i64 sR.x0, .int .i64 sR.y0, .int .i64 sR.x1, .int .i64 sR.y1], .func (.func 54) #[] #[.pointer (some ⟨pb, 0, none⟩), .pointer (some ⟨pd, 0, none⟩)]] w fun e w' => e = .returned (.bool true) ∧ Coll w' base pb pd (L ++ (itsN h t).filter (hit sR)) ∧ Mix.Ex w0 w' ∧ Kp w w' pb pd
set_option maxRecDepth 100000 in
set_option maxHeartbeats 1600000 in
theorem search_leaf (c : Int) (Z : Nat → Prop) (w0 : World) (base pb pd : Nat) (sR : R) (h0 : w0.heap.size ≤ pb) (h1 : w0.heap.size ≤ pd) : SearchC c Z w0 base pb pd sR 0 := by
  rintro v ⟨n, E⟩ s ⟨p, q, ic, X, rfl, ⟨hN, hL, -, hpq, hn⟩, hE, he, -⟩ hW w L hC hx hl
  dsimp only at hN hL hE he hn
  subst hE
  dsimp only [leafB] at hN hL
  rw [itsN_itK] at hl ⊢
  have HE := Lib.hid he
  clear he hW
  have HNN := Lib.hid hN
  have HLL := Lib.hid hL
  have hxa := hx.alloc (.cells (boxV sR).toArray 91)
  have hCa := hC.ex ((Mix.Ex.refl w).alloc (.cells (boxV sR).toArray 91))
  have n5 := heap_alloc_new w (.cells (boxV sR).toArray 91)
  have hkp := Kp.ex hC ((Mix.Ex.refl w).alloc (.cells (boxV sR).toArray 91))
  have hfrn := Frn.new hC ((Mix.Ex.refl w).alloc (.cells (boxV sR).toArray 91)) (b := w.heap.size) (Nat.le_refl _) (by simp)
  have HC0 := Lib.hid hC
  clear hN hL hx hC
  have n0 : (0 : Int) ≤ (n : Int) := by omega
  have n1 : (n : Int) ≤ 64 := by omega
  go_enter Try.func72, Try.ntmps72
  go_upto_region 1 with (fail)
  change Code.wp _ _ _ _ (w.alloc (.cells (boxV sR).toArray 91))
  generalize hB5 : w.heap.size = B5 at n5 hfrn ⊢
  generalize (w.alloc (.cells (boxV sR).toArray 91)) = w1 at hxa hCa n5 hkp hfrn ⊢
  have hLf := fun d => leaf_c (w1.drewN d) p _ ((HNN.out.ex hxa).drewN d)
  have hIt := fun d => items_c (w1.drewN d) p _ ((HNN.out.ex hxa).drewN d) rfl
  dsimp only at hLf hIt
  have c2 : w1.cell? ⟨p, 2, none⟩ = some (.int .i16 n) := (HNN.out.ex hxa).cell2
  have N5 := Lib.hid n5
  have HKP := Lib.hid hkp
  have HFRN := Lib.hid hfrn
  have HXA := Lib.hid hxa
  have HCA := Lib.hid hCa
  clear hxa hCa n5 hkp hfrn
  (refine Mix.wp_region_dr (by kernel_rfl) (by kernel_rfl) ?_; (repeat (go_big_quiet_step (fail))); refine wpQuiet_nil ?_; intro nq)
  clear c2
  go_wp2_with fail
  refine (hLf _).mono ?_
  rintro e w2 ⟨rfl, rfl⟩
  go_wp2_with fail
  refine (hIt _).mono ?_
  rintro e w2 ⟨rfl, rfl⟩
  clear hLf hIt
  go_wp2_with fail
  go_loopw [9] (fun i wr => ∃ kk : Nat, kk ≤ n ∧ i = .int .i64 kk ∧ Coll wr base pb pd (L ++ (itK X kk).filter (hit sR)) ∧ Mix.Ex w0 wr ∧ Kp w1 wr pb pd) (fun i _ => n - (intOf i).toNat)
  case atStart => exact ⟨0, by omega, rfl, by rw [itK_zero]; simpa using HCA.out.ex ((Mix.Ex.refl _).drewN _), HXA.out.drewN _, Kp.ex HCA.out ((Mix.Ex.refl _).drewN _)⟩
  case round =>
    obtain ⟨kk, hk, rfl, hCr, hxr, hx1r⟩ := hrel
    have HCR := Lib.hid hCr
    have HXR := Lib.hid hxr
    have HX1R := Lib.hid hx1r
    clear hCr hxr hx1r
    by_cases hlt : kk < n
    case neg =>
      have hkn : kk = n := by omega
      subst hkn
      go_wp2_with fail
      go_ret
      exact ⟨rfl, HCR.out, HXR.out, HKP.out.trans HX1R.out⟩
    have hNr := HNN.out.ex HXR.out
    have hrs := rectAt_node hNr (i := kk) (by omega)
    have hrt := rectAt_of_block ((HX1R.out _ HFRN.out).1.trans N5.out)
    dsimp only at hrs
    have hI := intersects_c wr p (3 + kk * 4) B5 0 (X kk).1 sR hrs hrt
    have hll := itK_le X (n := n) (k := kk + 1) (by omega)
    rw [itK_succ, List.length_append] at hll
    have hfl : ((itK X kk).filter (hit sR)).length ≤ (itK X kk).length := List.length_filter_le _ _
    have hsn : (itK X (kk + 1)).filter (hit sR) = (itK X kk).filter (hit sR) ++ (if (X kk).1.intersects sR then [((X kk).1, ((X kk).2.t : Int))] else []) := by
      rw [itK_succ, List.filter_append]
      congr 1
      show List.filter (hit sR) [((X kk).1, ((X kk).2.t : Int))] = _
      simp only [List.filter_cons, List.filter_nil, hit]
      rfl
    have HSN := Lib.hid hsn
    clear hsn hrs hrt
    cases hit? : (X kk).1.intersects sR
    · rw [hit?] at hI
      have hfin : (itK X (kk + 1)).filter (hit sR) = (itK X kk).filter (hit sR) := by rw [HSN.out, hit?]; simp
      have HF := Lib.hid hfin
      clear hit? hfin hNr
      go_wp2_with fail
      refine hI.mono ?_
      rintro e w3 ⟨rfl, d3, rfl⟩
      clear hI
      go_wp2_with fail
      go_roundw
      case measure => simp [intOf]; omega
      case rel => exact ⟨kk + 1, by omega, by go_num, by rw [HF.out]; exact HCR.out.ex ((Mix.Ex.refl _).drewN _), HXR.out.drewN _, HX1R.out.trans (Kp.ex HCR.out ((Mix.Ex.refl _).drewN _))⟩
    rw [hit?] at hI
    have hfin : (L ++ (itK X kk).filter (hit sR)) ++ [((X kk).1, ((X kk).2.t : Int))] = L ++ (itK X (kk + 1)).filter (hit sR) := by rw [HSN.out, hit?, List.append_assoc]; rfl
    have HF := Lib.hid hfin
    clear hit? hfin
    have hlr : ListAt wr q (elT true) (fE (mp An.v X)) := (Chg.ex (S := fun _ => False) HXR.out).list HLL.out (fun h => h)
    have hcl0 := hlr.cell (i := kk) (by omega)
    have hvx : (X kk).2.v = .int .i64 ((X kk).2.t : Int) := (HE.out (X kk) (mem_lst.2 ⟨kk, hlt, rfl⟩)).1
    have hcl : wr.cell? ⟨q, kk, none⟩ = some (.int .i64 ((X kk).2.t : Int)) := by rw [hcl0]; show some ((X kk).2.v) = _; rw [hvx]
    clear hcl0
    have r0 : wr.cell? ⟨p, 3 + kk * 4, none⟩ = some (.int .i64 (X kk).1.x0) := cell_rcell hNr (i := kk) (j := 0) (by omega) (by omega)
    have r1 : wr.cell? ⟨p, 3 + kk * 4 + 1, none⟩ = some (.int .i64 (X kk).1.y0) := cell_rcell hNr (i := kk) (j := 1) (by omega) (by omega)
    have r2 : wr.cell? ⟨p, 3 + kk * 4 + 2, none⟩ = some (.int .i64 (X kk).1.x1) := cell_rcell hNr (i := kk) (j := 2) (by omega) (by omega)
    have r3 : wr.cell? ⟨p, 3 + kk * 4 + 3, none⟩ = some (.int .i64 (X kk).1.y1) := cell_rcell hNr (i := kk) (j := 3) (by omega) (by omega)
    have hlk : (L ++ (itK X kk).filter (hit sR)).length ≤ 900000 := by rw [List.length_append]; omega
    have hClo := fun m => searchClo_c w0 (wr.drewN m) base pb pd _ ((X kk).1, ((X kk).2.t : Int)) (HCR.out.ex ((Mix.Ex.refl wr).drewN m)) hlk (HXR.out.drewN m) h0 h1
    rw [HF.out] at hClo
    dsimp only at hClo
    clear hll hvx hNr hlk hfl hlr HSN
    generalize (X kk).1 = r at r0 r1 r2 r3 hClo hI HF
    generalize hy : ((X kk).2.t : Int) = y at hcl hClo HF
    clear hy
    go_wp2_with fail
    refine hI.mono ?_
    rintro e w3 ⟨rfl, d3, rfl⟩
    have hClo := fun m => hClo (d3 + m)
    clear hI
    go_upto_region 8 with (fail)
    (refine Mix.wp_region_drw 15 [1] (by kernel_rfl) (by kernel_rfl) ?_; simp only [List.take_succ_cons, List.take_zero, List.drop_succ_cons, List.drop_zero]; (repeat (go_big_quiet_step (fail))); refine wpQuiet_nil ?_)
    (refine Mix.wpTl_dr (fun n K hK => ?_); go_simp)
    refine (hClo _).mono ?_
    rintro e w3 ⟨rfl, hC3, hx3, hk3⟩
    have hk3 := (Kp.ex HCR.out ((Mix.Ex.refl _).drewN _)).trans hk3
    refine ⟨_, rfl, _, Mix.Dr.refl _, hK _ _ trivial ?_⟩
    (clear hK K; simp only [Act.put, List.setIfInBounds_toArray, List.set_cons_zero, List.set_cons_succ, List.take_succ_cons, List.take_zero, List.drop_succ_cons, List.drop_zero])
    (repeat (go_big_quiet_step (fail)))
    (refine wpQuiet_nil ?_; intro nq)
    have HC3 := Lib.hid hC3
    have HX3 := Lib.hid hx3
    have HK3 := Lib.hid hk3
    clear hC3 hx3 hk3 hClo hcl r0 r1 r2 r3
    go_wp2_with fail
    go_roundw
    case measure => simp [intOf]; omega
    case rel => exact ⟨kk + 1, by omega, by go_num, HC3.out.ex ((Mix.Ex.refl _).drewN _), HX3.out.drewN _, (HX1R.out.trans HK3.out).trans (Kp.ex HC3.out ((Mix.Ex.refl _).drewN _))⟩
set_option maxRecDepth 100000 in
set_option maxHeartbeats 1600000 in
theorem search_branch (c : Int) (Z : Nat → Prop) (w0 : World) (base pb pd : Nat) (sR : R) (h : Nat) (IH : SearchC c Z w0 base pb pd sR h) : SearchC c Z w0 base pb pd sR (h + 1) := by
  rintro v ⟨n, E⟩ s ⟨p, q, ic, X, rfl, ⟨hN, hL, -, hpq, hn⟩, hE, he, -⟩ hW w L hC hx hl
  dsimp only at hN hL hE he hn
  subst hE
  dsimp only [leafB] at hN hL
  have hWX : ∀ i, i < n → Wf (h + 1) (X i).1 (X i).2.t := fun i hi => hW.2 (mp An.t X i) (mem_lst.2 ⟨i, hi, rfl⟩)
  rw [itsN_itK] at hl ⊢
  have HE := Lib.hid he
  have HWX := Lib.hid hWX
  clear he hW hWX
  have HNN := Lib.hid hN
  have HLL := Lib.hid hL
  have hxa := hx.alloc (.cells (boxV sR).toArray 91)
  have hCa := hC.ex ((Mix.Ex.refl w).alloc (.cells (boxV sR).toArray 91))
  have n5 := heap_alloc_new w (.cells (boxV sR).toArray 91)
  have hkp := Kp.ex hC ((Mix.Ex.refl w).alloc (.cells (boxV sR).toArray 91))
  have hfrn := Frn.new hC ((Mix.Ex.refl w).alloc (.cells (boxV sR).toArray 91)) (b := w.heap.size) (Nat.le_refl _) (by simp)
  clear hN hL hx hC
  have n0 : (0 : Int) ≤ (n : Int) := by omega
  have n1 : (n : Int) ≤ 64 := by omega
  go_enter Try.func72, Try.ntmps72
  go_upto_region 1 with (fail)
  change Code.wp _ _ _ _ (w.alloc (.cells (boxV sR).toArray 91))
  generalize hB5 : w.heap.size = B5 at n5 hfrn ⊢
  generalize (w.alloc (.cells (boxV sR).toArray 91)) = w1 at hxa hCa n5 hkp hfrn ⊢
  have hLf := fun d => leaf_c (w1.drewN d) p _ ((HNN.out.ex hxa).drewN d)
  have hIt := fun d => children_c (w1.drewN d) p _ ((HNN.out.ex hxa).drewN d) rfl
  dsimp only at hLf hIt
  have c2 : w1.cell? ⟨p, 2, none⟩ = some (.int .i16 n) := (HNN.out.ex hxa).cell2
  have N5 := Lib.hid n5
  have HKP := Lib.hid hkp
  have HFRN := Lib.hid hfrn
  have HXA := Lib.hid hxa
  have HCA := Lib.hid hCa
  clear hxa hCa n5 hkp hfrn
  (refine Mix.wp_region_dr (by kernel_rfl) (by kernel_rfl) ?_; (repeat (go_big_quiet_step (fail))); refine wpQuiet_nil ?_; intro nq)
  clear c2
  go_wp2_with fail
  refine (hLf _).mono ?_
  rintro e w2 ⟨rfl, rfl⟩
  go_wp2_with fail
  refine (hIt _).mono ?_
  rintro e w2 ⟨rfl, rfl⟩
  clear hLf hIt
  go_wp2_with fail
  go_loopw [11] (fun i wr => ∃ kk : Nat, kk ≤ n ∧ i = .int .i64 kk ∧ Coll wr base pb pd (L ++ (itK X kk).filter (hit sR)) ∧ Mix.Ex w0 wr ∧ Kp w1 wr pb pd) (fun i _ => n - (intOf i).toNat)
  case atStart => exact ⟨0, by omega, rfl, by rw [itK_zero]; simpa using HCA.out.ex ((Mix.Ex.refl _).drewN _), HXA.out.drewN _, Kp.ex HCA.out ((Mix.Ex.refl _).drewN _)⟩
  case round =>
    obtain ⟨kk, hk, rfl, hCr, hxr, hx1r⟩ := hrel
    have HCR := Lib.hid hCr
    have HXR := Lib.hid hxr
    have HX1R := Lib.hid hx1r
    clear hCr hxr hx1r
    by_cases hlt : kk < n
    case neg =>
      have hkn : kk = n := by omega
      subst hkn
      go_wp2_with fail
      go_ret
      exact ⟨rfl, HCR.out, HXR.out, HKP.out.trans HX1R.out⟩
    have hNr := HNN.out.ex HXR.out
    have hrs := rectAt_node hNr (i := kk) (by omega)
    have hrt := rectAt_of_block ((HX1R.out _ HFRN.out).1.trans N5.out)
    dsimp only at hrs
    have hI := intersects_c wr B5 0 p (3 + kk * 4) sR (X kk).1 hrt hrs
    have hll := itK_le X (n := n) (k := kk + 1) (by omega)
    have hsn : (itK X (kk + 1)).filter (hit sR) = (itK X kk).filter (hit sR) ++ (itsN h (X kk).2.t).filter (hit sR) := by
      rw [itK_succ, List.filter_append]; rfl
    have hlen : (itK X (kk + 1)).length = (itK X kk).length + (itsN h (X kk).2.t).length := by rw [itK_succ, List.length_append]; rfl
    have hfl : ((itK X kk).filter (hit sR)).length ≤ (itK X kk).length := List.length_filter_le _ _
    have HSN := Lib.hid hsn
    clear hsn hrs
    cases hit? : sR.intersects (X kk).1
    · rw [hit?] at hI
      have hfin : (itK X (kk + 1)).filter (hit sR) = (itK X kk).filter (hit sR) := by
        rw [itK_succ, List.filter_append, hit_none (HWX.out kk hlt) hit?, List.append_nil]
      have HF := Lib.hid hfin
      clear hit? hfin hNr hrt
      go_wp2_with fail
      refine hI.mono ?_
      rintro e w3 ⟨rfl, d3, rfl⟩
      clear hI
      go_wp2_with fail
      go_roundw
      case measure => simp [intOf]; omega
      case rel => exact ⟨kk + 1, by omega, by go_num, by rw [HF.out]; exact HCR.out.ex ((Mix.Ex.refl _).drewN _), HXR.out.drewN _, HX1R.out.trans (Kp.ex HCR.out ((Mix.Ex.refl _).drewN _))⟩
    rw [hit?] at hI
    have hfin : (L ++ (itK X kk).filter (hit sR)) ++ (itsN h (X kk).2.t).filter (hit sR) = L ++ (itK X (kk + 1)).filter (hit sR) := by rw [HSN.out, List.append_assoc]
    have HF := Lib.hid hfin
    clear hit? hfin
    have hlr : ListAt wr q (elT false) (fE (mp An.v X)) := (Chg.ex (S := fun _ => False) HXR.out).list HLL.out (fun h => h)
    have hcl : wr.cell? ⟨q, kk, none⟩ = some ((X kk).2.v) := hlr.cell (i := kk) (by omega)
    have hwc : WfN h (X kk).2.t := (Wf_succ.1 (HWX.out kk hlt)).2.2
    have hClo := fun m => IH _ _ _ (HE.out (X kk) (mem_lst.2 ⟨kk, hlt, rfl⟩)) hwc (wr.drewN m) _ (HCR.out.ex ((Mix.Ex.refl wr).drewN m)) (HXR.out.drewN m) (by rw [List.length_append]; omega)
    rw [HF.out] at hClo
    obtain ⟨t0, t1, t2, t3⟩ := hrt
    have hbl := World.block_lt_of_cell? wr _ t0
    clear hll hNr hfl hlr HSN hwc hlen
    generalize (X kk).2.v = y at hcl hClo
    go_wp2_with fail
    refine hI.mono ?_
    rintro e w3 ⟨rfl, d3, rfl⟩
    have hClo := fun m => hClo (d3 + m)
    clear hI
    go_upto_region 16 with (fail)
    (refine Mix.wp_region_drw 6 [1] (by kernel_rfl) (by kernel_rfl) ?_; simp only [List.take_succ_cons, List.take_zero, List.drop_succ_cons, List.drop_zero]; (repeat (go_big_quiet_step (fail))); refine wpQuiet_nil ?_)
    (refine Mix.wpTl_dr (fun n K hK => ?_); go_simp)
    refine (hClo _).mono ?_
    rintro e w3 ⟨rfl, hC3, hx3, hk3⟩
    have hk3 := (Kp.ex HCR.out ((Mix.Ex.refl _).drewN _)).trans hk3
    refine ⟨_, rfl, _, Mix.Dr.refl _, hK _ _ trivial ?_⟩
    (clear hK K; simp only [Act.put, List.setIfInBounds_toArray, List.set_cons_zero, List.set_cons_succ, List.take_succ_cons, List.take_zero, List.drop_succ_cons, List.drop_zero])
    (repeat (go_big_quiet_step (fail)))
    (refine wpQuiet_nil ?_; intro nq)
    have HC3 := Lib.hid hC3
    have HX3 := Lib.hid hx3
    have HK3 := Lib.hid hk3
    clear hC3 hx3 hk3 hClo hcl
    go_wp2_with fail
    go_roundw
    case measure => simp [intOf]; omega
    case rel => exact ⟨kk + 1, by omega, by go_num, HC3.out.ex ((Mix.Ex.refl _).drewN _), HX3.out.drewN _, (HX1R.out.trans HK3.out).trans (Kp.ex HC3.out ((Mix.Ex.refl _).drewN _))⟩
theorem search_c (c : Int) (Z : Nat → Prop) (w0 : World) (base pb pd : Nat) (sR : R) (h0 : w0.heap.size ≤ pb) (h1 : w0.heap.size ≤ pd) : ∀ h, SearchC c Z w0 base pb pd sR h
  | 0 => search_leaf c Z w0 base pb pd sR h0 h1
  | h + 1 => search_branch c Z w0 base pb pd sR h (search_c c Z w0 base pb pd sR h0 h1 h)
end Go.Proofs.Ytboeldlilkeihaa
