/- The box that grows least, as the package chooses it. -/
import Derived.Test.YtenokcfpmfoekaaBoxesB
import Derived.Test.YtenokcfpmfoekaaChoose
import Derived.Test.YtenokcfpmfoekaaLawC
set_option linter.unusedSimpArgs false
set_option linter.unusedVariables false
namespace Go.Proofs.Ytenokcfpmfoekaa
open Go.RowKit Go.Bx

/-- What a new tree holds. -/
def tr0 : Array Value := #[.int .u64 0, .int .i64 0, .int .i64 0, .int .i64 0, .int .i64 0, .int .i64 0, .pointer none, .int .i64 0, .pointer none]

set_option maxRecDepth 100000 in
set_option maxHeartbeats 1600000 in
theorem ZZChoose_c (w : World) (g0 cap0 b0 : Nat) (rs : List R) (s : R) (hr : w.Row b0 47 4 boxV (.slice (some ⟨g0, 0, none⟩) rs.length cap0) rs) (hl : rs.length ≤ 64) (hs : s.small) (hsm : ∀ r ∈ rs, r.small) :
    Calls Try.prog 44 #[.slice (some ⟨g0, 0, none⟩) rs.length cap0, .agg #[.int .i64 s.x0, .int .i64 s.y0, .int .i64 s.x1, .int .i64 s.y1]] w fun e w' => e = .returned (.int .i64 (chooseSt (leafRc rs rs.length) s rs.length).1) ∧ Mix.Ex w w' := by
  go_enter Try.func44, Try.ntmps44
  go_wp2_with fail
  have hr0 := hr
  have hr := hr.ex ((Mix.Ex.refl w).alloc (.cells (boxV s).toArray 47))
  have hx := (Mix.Ex.refl w).alloc (.cells (boxV s).toArray 47)
  have hm := rectAt_alloc w s 47 rfl
  change Code.wp _ _ _ _ (w.alloc (.cells (boxV s).toArray 47))
  change RectAt (w.alloc (.cells (boxV s).toArray 47)) _ _ _ at hm
  generalize w.heap.size = G at hm ⊢
  generalize (w.alloc (.cells (boxV s).toArray 47)) = w0 at hr hx hm ⊢
  have hG := hm.lt
  obtain ⟨m0, m1, m2, m3⟩ := hm
  simp only [Nat.zero_add] at m0 m1 m2 m3
  (refine Mix.wp_region_new 0 [1, 1, 0, 1] (by kernel_rfl) (by kernel_rfl) ?_; simp only [List.take_succ_cons, List.take_zero, List.drop_succ_cons, List.drop_zero])
  refine wpQuiet_nil ?_
  refine Mix.wpTl_dr (fun n K hK => ?_)
  go_simp
  have hx1 := (Mix.Ex.refl w0).alloc (.cells tr0 74)
  have ht : (w0.alloc (.cells tr0 74)).cell? ⟨w0.heap.size, 0, none⟩ = some (.int .u64 0) := by simp; rfl
  have hr1 := hr.ex hx1
  refine ⟨_, ⟨n, rfl⟩, hx1, hK _ _ hx1 ?_⟩
  (clear hK K; simp only [Act.put, List.setIfInBounds_toArray, List.set_cons_zero, List.set_cons_succ, List.take_succ_cons, List.take_zero, List.drop_succ_cons, List.drop_zero])
  change wpQuiet _ _ _ (fun a' => Mix.wpTl _ _ _ _ _ _ _ _ a' (w0.alloc (.cells tr0 74))) _ _
  generalize (w0.alloc (.cells tr0 74)) = w1 at hx1 ht hr1 ⊢
  generalize w0.heap.size = T at ht ⊢
  (repeat (go_big_quiet_step (fail))); refine wpQuiet_nil ?_
  (refine Mix.wpTl_dr (fun n K hK => ?_); go_simp)
  refine (zzLeaf_c (w1.drewN n) T g0 cap0 b0 rs ht (hr1.ex ((Mix.Ex.refl _).drewN _)) hl).mono ?_
  rintro e w2 ⟨p, q, rfl, hN, hL, hpq, hp, hq, hx2⟩
  have hx2 := (hx1.drewN _).trans hx2
  refine ⟨_, rfl, w2, Mix.Dr.refl _, hx2, hK _ _ hx2 ?_⟩
  (clear hK K; simp only [Act.put, List.setIfInBounds_toArray, List.set_cons_zero, List.set_cons_succ, List.take_succ_cons, List.take_zero, List.drop_succ_cons, List.drop_zero])
  (repeat (go_big_quiet_step (fail))); refine wpQuiet_nil ?_
  (refine Mix.wpTl_dr (fun n K hK => ?_); go_simp)
  refine (boxRect_c _ s).mono ?_
  rintro e w3 ⟨b, rfl, hb, hrb, hob, hx3⟩
  have hN3 := (hN.drewN n).ex hx3
  have hx3 := (hx2.drewN _).trans hx3
  refine ⟨_, rfl, w3, Mix.Dr.refl _, hx3, hK _ _ hx3 ?_⟩
  (clear hK K; simp only [Act.put, List.setIfInBounds_toArray, List.set_cons_zero, List.set_cons_succ, List.take_succ_cons, List.take_zero, List.drop_succ_cons, List.drop_zero])
  (repeat (go_big_quiet_step (fail))); refine wpQuiet_nil ?_
  (refine Mix.wpTl_dr (fun n K hK => ?_); go_simp)
  refine (choose_c _ p b 0 (leafNd rs rs.length q) rs.length s (hN3.drewN _) rfl hl (hrb.of_dr _) hs ?_).mono ?_
  · intro i hi
    show (leafRc rs rs.length i).small
    unfold leafRc
    rw [if_pos hi, List.getD_eq_getElem?_getD, List.getElem?_eq_getElem hi]
    exact hsm _ (List.getElem_mem hi)
  rintro e w4 ⟨rfl, d, rfl⟩
  have hx4 := (hx3.drewN n).drewN d
  refine ⟨_, rfl, _, Mix.Dr.refl _, hx4, hK _ _ hx4 ?_⟩
  (clear hK K; simp only [Act.put, List.setIfInBounds_toArray, List.set_cons_zero, List.set_cons_succ, List.take_succ_cons, List.take_zero, List.drop_succ_cons, List.drop_zero])
  (repeat (go_big_quiet_step (fail)))
  (refine wpQuiet_nil ?_; intro nq)
  go_wp2_with fail
  go_ret
  exact ⟨rfl, (hx.trans hx4).drewN _⟩

set_option maxRecDepth 100000 in
set_option maxHeartbeats 1600000 in
theorem implChoose_c (w : World) (g0 cap0 b0 : Nat) (rs : List R) (s : R) (hr : w.Row b0 25 4 boxV (.slice (some ⟨g0, 0, none⟩) rs.length cap0) rs) (hl : rs.length ≤ 64) (hs : s.small) (hsm : ∀ r ∈ rs, r.small) :
    Calls Try.prog 29 #[.slice (some ⟨g0, 0, none⟩) rs.length cap0, .agg #[.int .i64 s.x0, .int .i64 s.y0, .int .i64 s.x1, .int .i64 s.y1]] w fun e w' => e = .returned (.int .i64 (chooseSt (leafRc rs rs.length) s rs.length).1) ∧ Mix.Ex w w' := by
  go_enter Try.func29, Try.ntmps29
  go_wp2_with fail
  have hr0 := hr
  have hr := hr.ex ((Mix.Ex.refl w).alloc (.cells (boxV s).toArray 25))
  have hx := (Mix.Ex.refl w).alloc (.cells (boxV s).toArray 25)
  have hm := rectAt_alloc w s 25 rfl
  change Code.wp _ _ _ _ (w.alloc (.cells (boxV s).toArray 25))
  change RectAt (w.alloc (.cells (boxV s).toArray 25)) _ _ _ at hm
  generalize w.heap.size = G at hm ⊢
  generalize (w.alloc (.cells (boxV s).toArray 25)) = w0 at hr hx hm ⊢
  have hG := hm.lt
  obtain ⟨m0, m1, m2, m3⟩ := hm
  simp only [Nat.zero_add] at m0 m1 m2 m3
  (refine Mix.wp_region_new 1 [1, 1] (by kernel_rfl) (by kernel_rfl) ?_; simp only [List.take_succ_cons, List.take_zero, List.drop_succ_cons, List.drop_zero])
  (repeat (go_big_quiet_step (fail))); refine wpQuiet_nil ?_
  (refine Mix.wpTl_dr (fun n K hK => ?_); go_simp)
  refine (implBoxes_c (w0.drewN n) g0 cap0 b0 rs (hr.ex ((Mix.Ex.refl _).drewN _)) hl).mono ?_
  rintro e w2 ⟨g1, cap1, rfl, hr2, hx2⟩
  have hx2 := ((Mix.Ex.refl w0).drewN n).trans hx2
  refine ⟨_, rfl, w2, Mix.Dr.refl _, hx2, hK _ _ hx2 ?_⟩
  (clear hK K; simp only [Act.put, List.setIfInBounds_toArray, List.set_cons_zero, List.set_cons_succ, List.take_succ_cons, List.take_zero, List.drop_succ_cons, List.drop_zero])
  (repeat (go_big_quiet_step (fail))); refine wpQuiet_nil ?_
  (refine Mix.wpTl_dr (fun n K hK => ?_); go_simp)
  refine (ZZChoose_c (w2.drewN n) g1 cap1 _ rs s (hr2.ex ((Mix.Ex.refl _).drewN _)) hl hs hsm).mono ?_
  rintro e w4 ⟨rfl, hx4⟩
  have hx4 := (hx2.drewN n).trans hx4
  refine ⟨_, rfl, _, Mix.Dr.refl _, hx4, hK _ _ hx4 ?_⟩
  (clear hK K; simp only [Act.put, List.setIfInBounds_toArray, List.set_cons_zero, List.set_cons_succ, List.take_succ_cons, List.take_zero, List.drop_succ_cons, List.drop_zero])
  (repeat (go_big_quiet_step (fail)))
  (refine wpQuiet_nil ?_; intro nq)
  go_wp2_with fail
  go_ret
  exact ⟨rfl, (hx.trans hx4).drewN _⟩

theorem small_boxAt {w : World} {v : Value} {zs : List Int} (h : Ints16At w v zs) (k : Nat) : (boxAt zs k).small := R.small_of4 (h.wf _) (h.wf _) (h.wf _) (h.wf _)
theorem small_boxes {w : World} {v : Value} {zs : List Int} (h : Ints16At w v zs) : ∀ r ∈ boxesOf zs, r.small := by
  intro r hr
  unfold boxesOf boxesN at hr
  obtain ⟨k, _, rfl⟩ := List.mem_map.1 hr
  exact small_boxAt h k

set_option maxRecDepth 100000 in
set_option maxHeartbeats 3200000 in
theorem choose_walk (w : World) (v : Value) (zs : List Int) (h : Ints16At w v zs) {a b c d : Int} (ha : I16 a) (hb : I16 b) (hc : I16 c) (hd : I16 d) :
    Calls Try.prog 10 #[v, .int .i16 a, .int .i16 b, .int .i16 c, .int .i16 d] w fun e w' => e = .returned (.bool true) ∧ Mix.Ex w w' := by
  have h' := h
  obtain ⟨⟨o, cap0, rfl, hcells⟩, hle, hwf⟩ := h
  clear hcells hwf
  go_enter Try.func10, Try.ntmps10
  go_wp2_with fail
  · go_ret
    exact ⟨rfl, Mix.Ex.refl _⟩
  refine (specBoxes_c w _ zs h').mono ?_
  rintro e w1 ⟨g, cap, rfl, hr, hx⟩
  have hl := boxesOf_le zs
  have hsm := small_boxes h'
  generalize boxesOf zs = rs at hr hl hsm ⊢
  obtain ⟨n, hn⟩ : ∃ n, rs.length = n := ⟨_, rfl⟩
  rw [hn] at hr hl ⊢
  have HN := Lib.hid hn
  clear hn
  go_wp2_with fail
  refine (BoxOf_c _ a b c d ha hb hc hd).mono ?_
  rintro e w2 ⟨rfl, hx2⟩
  have hss := R.small_of4 ha hb hc hd
  generalize R.of4 a b c d = s at hss ⊢
  have hr := hr.ex hx2
  have hx := hx.trans hx2
  clear hx2 h'
  by_cases h0 : n = 0
  · subst h0
    go_wp2_with fail
    go_ret
    exact ⟨rfl, hx.alloc _⟩
  have h0' : ((n : Int) == 0) = false := by simp; omega
  have hr := hr.ex ((Mix.Ex.refl w2).alloc (.cells (boxV s).toArray 25))
  have hx := hx.alloc (.cells (boxV s).toArray 25)
  have hm := rectAt_alloc w2 s 25 rfl
  obtain ⟨j, hj, hst, hall⟩ := choose_spec (leafRc rs n) s (n - 1)
  rw [show n - 1 + 1 = n by omega] at hj hst hall
  obtain ⟨q, hq⟩ : ∃ q, rs[j]? = some q := ⟨rs[j]'(by have := HN.out; omega), List.getElem?_eq_getElem _⟩
  have hqj : leafRc rs n j = q := by rw [← HN.out]; exact leafRc_get rs j q hq
  have hqs : q.small := hsm q (List.mem_of_getElem? hq)
  have hmin : ∀ (i : Nat) (r : R), rs[i]? = some r → ¬ ((r.expand s).area - r.area < (q.expand s).area - q.area) := by
    intro i r hi
    have hin := (List.getElem?_eq_some_iff.1 hi).1
    have h1 := hall i (by have := HN.out; omega)
    rw [hqj, show leafRc rs n i = r by rw [← HN.out]; exact leafRc_get rs i r hi] at h1
    have e1 : q.unionedArea s = (q.expand s).area := rfl
    have e2 : r.unionedArea s = (r.expand s).area := rfl
    omega
  have hC := implChoose_c (w2.alloc (.cells (boxV s).toArray 25)) g cap _ rs s (by rw [HN.out]; exact hr) (by rw [HN.out]; exact hl) hss hsm
  rw [HN.out, hst] at hC
  have HMIN := Lib.hid hmin
  have b1 : ¬ (j : Int) < 0 := by omega
  have b2 : ¬ (n : Int) ≤ j := by omega
  have b3 : ((j : Int) < 0) = False := by simp
  clear hst hall hqj hmin
  go_wp2_with fail
  refine hC.mono ?_
  rintro e w3 ⟨rfl, hx3⟩
  have hr := hr.ex hx3
  have hx := hx.trans hx3
  have hm := hm.of_ex hx3
  clear hC hx3
  go_wp2_with fail
  generalize hW : w2.heap.size = W at hm
  have hW' : W < w3.heap.size := hm.lt
  clear hW
  go_loopw [42] (fun i wr => ∃ k : Nat, k ≤ n ∧ i = .int .i64 k ∧ Mix.Ex w3 wr) (fun i _ => n - (intOf i).toNat)
  case atStart => exact ⟨0, by omega, rfl, Mix.Ex.refl _⟩
  case round =>
    obtain ⟨k, hk, rfl, hxr⟩ := hrel
    by_cases hlt : k < n
    case neg =>
      have hkn : k = n := by omega
      subst hkn
      go_wp2_with fail
      go_ret
      exact ⟨rfl, hx.trans hxr⟩
    obtain ⟨r, hrk⟩ : ∃ r, rs[k]? = some r := ⟨rs[k]'(by have := HN.out; omega), List.getElem?_eq_getElem _⟩
    have hrs : r.small := hsm r (List.mem_of_getElem? hrk)
    have hmin := HMIN.out k r hrk
    have hrr := hr.ex hxr
    obtain ⟨l0, l1, l2, l3⟩ := row_cells hrr hrk
    have hg0 := World.block_lt_of_cell? wr _ l0
    dsimp only at hg0
    go_wp2_with fail
    have hx1 := hxr.alloc (.cells (boxV r).toArray 25)
    have hr1 := hrr.ex ((Mix.Ex.refl wr).alloc (.cells (boxV r).toArray 25))
    have hb := rectAt_alloc wr r 25 rfl
    change Code.wp _ _ _ _ (wr.alloc (.cells (boxV r).toArray 25))
    change RectAt (wr.alloc (.cells (boxV r).toArray 25)) _ _ _ at hb
    clear l0 l1 l2 l3 hg0 hrr
    generalize wr.heap.size = G at hb ⊢
    generalize (wr.alloc (.cells (boxV r).toArray 25)) = w4 at hx1 hr1 hb ⊢
    have hm4 := hm.of_ex hx1
    obtain ⟨l0, l1, l2, l3⟩ := row_cells hr1 hq
    have hg0 := World.block_lt_of_cell? w4 _ l0
    have hG := hb.lt
    have hW4 := hm4.lt
    obtain ⟨m0, m1, m2, m3⟩ := hm4
    obtain ⟨n0, n1, n2, n3⟩ := hb
    simp only [Nat.zero_add] at m0 m1 m2 m3 n0 n1 n2 n3
    dsimp only at hg0
    have j0 : (0 : Int) ≤ j := by omega
    have j1 : (j : Int) < n := by omega
    have e1 := area_bound (R.small_expand hrs hss)
    have e2 := area_bound (R.small_expand hqs hss)
    have e3 := area_bound hrs
    have e4 := area_bound hqs
    have E1 := R.small_expand hrs hss
    have E2 := R.small_expand hqs hss
    have A : ∀ (t : R) W1, Calls Try.prog 17 #[.agg #[.int .i64 t.x0, .int .i64 t.y0, .int .i64 t.x1, .int .i64 t.y1], .agg #[.int .i64 s.x0, .int .i64 s.y0, .int .i64 s.x1, .int .i64 s.y1]] W1 fun e w' => e = .returned (.agg #[.int .i64 (t.expand s).x0, .int .i64 (t.expand s).y0, .int .i64 (t.expand s).x1, .int .i64 (t.expand s).y1]) ∧ Mix.Ex W1 w' := fun t W1 => specAround_c W1 t s
    (refine Mix.wp_region_ex (by kernel_rfl) (by kernel_rfl) ?_; (repeat (go_big_quiet_step (first | (go_at_call 17; exact Mix.calls_qx (A _ _) (fun y => ⟨_, World.ext_ext _ _ _⟩)) | (go_at_call 19; exact Mix.calls_qx (specArea_c _ _ (by first | exact hrs | exact hqs | exact E1 | exact E2)) (fun y => ⟨_, World.ext_ext _ _ _⟩))))); refine wpQuiet_nil ?_; intro nq)
    have hmin' : ((r.expand s).area - r.area < (q.expand s).area - q.area) = False := eq_false (by omega)
    go_wp2_with fail
    go_roundw
    case rel => exact ⟨k + 1, by omega, by go_num, hx1.ext _⟩
    case measure => simp [intOf]; omega
end Go.Proofs.Ytenokcfpmfoekaa
