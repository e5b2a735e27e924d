/- The laws on what is nearest: their walks. -/
import Derived.Test.YtboeldlilkeihaaNbI
import Derived.Test.YtboeldlilkeihaaDst
import Derived.Test.YtboeldlilkeihaaSameC
set_option linter.unusedSimpArgs false
set_option linter.unusedVariables false
namespace Go.Bx
theorem Near.len {D : R → Nat} {O : List ((R × Int) × Nat)} {rest L : List (R × Int)} {mx : Nat} (h : Near D O rest L) (hr : rest = [] ∨ O.length = mx) (ho : O.length ≤ mx) : O.length = min mx L.length := by
  have h1 := h.perm.length_eq
  rw [List.length_append, List.length_map] at h1
  rcases hr with hr | hr
  · subst hr
    simp only [List.length_nil] at h1
    omega
  · omega
/-- What stands at a place. -/
theorem Near.at {D : R → Nat} {O : List ((R × Int) × Nat)} {rest L : List (R × Int)} (h : Near D O rest L) {W : List Nat} (hW : W.Perm (L.map fun x => D x.1)) (hs : W.Pairwise (· ≤ ·)) {i : Nat} {y : (R × Int) × Nat} (hy : O[i]? = some y) : W[i]? = some y.2 ∧ y.2 = D y.1.1 ∧ y.1 ∈ L := by
  have hi := (List.getElem?_eq_some_iff.1 hy).1
  have h1 : (O.map (·.2))[i]? = some y.2 := by rw [List.getElem?_map, hy]; rfl
  rw [h.take hW hs, List.getElem?_take_of_lt hi] at h1
  have hm : y ∈ O := List.mem_of_getElem? hy
  exact ⟨h1, h.dist y hm, h.perm.mem_iff.1 (List.mem_append_left _ (List.mem_map_of_mem hm))⟩
end Go.Bx
namespace Go.Proofs.Ytboeldlilkeihaa
open Go.RowKit Go.Bx
attribute [local go_sem] run_store_fl
theorem row_cells6 {w : World} {b0 g n cap k : Nat} {T : TypeId} {L : List ((R × Int) × Nat)} {y : (R × Int) × Nat} (h : w.Row b0 T 6 nV (.slice (some ⟨g, 0, none⟩) n cap) L) (hk : L[k]? = some y) :
    w.cell? ⟨g, k * 6, none⟩ = some (.int .i64 y.1.1.x0) ∧ w.cell? ⟨g, k * 6 + 1, none⟩ = some (.int .i64 y.1.1.y0) ∧ w.cell? ⟨g, k * 6 + 2, none⟩ = some (.int .i64 y.1.1.x1) ∧ w.cell? ⟨g, k * 6 + 3, none⟩ = some (.int .i64 y.1.1.y1) ∧ w.cell? ⟨g, k * 6 + 4, none⟩ = some (.int .i64 y.1.2) ∧ w.cell? ⟨g, k * 6 + 5, none⟩ = some (.float .f64 (floatOfInt .f64 (y.2 : Int))) :=
  ⟨h.cell (j := 0) hk rfl, h.cell (j := 1) hk rfl, h.cell (j := 2) hk rfl, h.cell (j := 3) hk rfl, h.cell (j := 4) hk rfl, h.cell (j := 5) hk rfl⟩
set_option maxRecDepth 100000 in
set_option maxHeartbeats 3200000 in
theorem exactNearby_walk (w : World) (v : Value) (zs : List Int) (a b c d : Int) (k : Int) (h : Ints16At w v zs) (ha : -32768 ≤ a ∧ a ≤ 32767) (hb : -32768 ≤ b ∧ b ≤ 32767) (hc : -32768 ≤ c ∧ c ≤ 32767) (hd : -32768 ≤ d ∧ d ≤ 32767) (hk : 0 ≤ k ∧ k ≤ 65535) :
    Calls Try.prog 4 #[v, .int .i16 a, .int .i16 b, .int .i16 c, .int .i16 d, .int .u16 k] w fun e w' => e = .returned (.bool true) ∧ Mix.Ex w w' := by
  obtain ⟨K, rfl⟩ : ∃ K : Nat, k = K := ⟨k.toNat, by omega⟩
  have h' := h
  obtain ⟨⟨o, cap0, rfl, hcells⟩, hle, hcap, hwf⟩ := h
  clear hcells hwf hcap
  have hBO := fun W => BoxOf_c W a b c d ha hb hc hd
  have hsS : (R.of4 a b c d).small ∧ (R.of4 a b c d).ok := ⟨R.small_of4 ha hb hc hd, R.ok_of4 a b c d⟩
  generalize R.of4 a b c d = sR at hBO hsS
  have HSS := Lib.hid hsS
  clear hsS
  obtain ⟨mx, hmx⟩ : ∃ mx, K % 500 = mx := ⟨_, rfl⟩
  have hti : Int.tmod (K : Int) 500 = mx := by rw [← hmx]; exact (Int.ofNat_tmod K 500).symm
  have hmx5 : mx < 500 := by rw [← hmx]; exact Nat.mod_lt _ (by omega)
  go_enter Try.func4, Try.ntmps4
  go_wp2_with fail
  · go_ret
    exact ⟨rfl, Mix.Ex.refl _⟩
  refine (steps_c w _ zs h').mono ?_
  rintro e w1 ⟨g, cap, rfl, hr, hx⟩
  have hl := stepsOf_len zs
  have hok := stepsOf_ok h'
  generalize stepsOf zs = S at hr hl hok ⊢
  obtain ⟨n, hn⟩ : ∃ n, S.length = n := ⟨_, rfl⟩
  rw [hn] at hr ⊢
  go_wp2_with fail
  refine (hBO _).mono ?_
  rintro e w2 ⟨rfl, hx2⟩
  have hr := hr.ex hx2
  have hx := hx.trans hx2
  clear hBO hx2
  go_upto_region 4 with (fail)
  have hxa := (Mix.Ex.refl w2).alloc (.cells (boxV sR).toArray 30)
  have n5 := heap_alloc_new w2 (.cells (boxV sR).toArray 30)
  change Code.wp _ _ _ _ (w2.alloc (.cells (boxV sR).toArray 30))
  generalize hB5 : w2.heap.size = B5 at n5 ⊢
  generalize (w2.alloc (.cells (boxV sR).toArray 30)) = w3 at hxa n5 ⊢
  have hr := hr.ex hxa
  have hx := hx.trans hxa
  clear hxa hti hmx
  go_wp2_with fail
  refine (fair_c w3 0 _ (.slice none 0 0) [] (.nil itemV_len) g n cap S hr hn (by simp; omega)).mono ?_
  rintro e w4 ⟨bb, rfl, hbb, hx4⟩
  cases bb
  · go_wp2_with fail
    go_ret
    exact ⟨rfl, hx.trans hx4⟩
  have hf := hbb rfl
  have hp := grown_fair hok hf
  have hml := play_len S []
  have hMo : ∀ x ∈ play [] S, x.1.small ∧ x.1.ok := fun x hx => TreOk.items (grown_ok hok) x (hp.mem_iff.2 hx)
  simp only [List.length_nil] at hml
  have hil : (itT (Bx.runT tre0 S)).length ≤ 900000 := by rw [hp.length_eq]; omega
  have hNb := fun W (hx : Mix.Ex w3 W) => implNearby_c W S hok (by omega) _ g cap n hn (hr.ex hx) hil sR HSS.out.1 mx
  have hPl := fun W (hx : Mix.Ex w3 W) => play_c W 0 _ (.slice none 0 0) [] (.nil itemV_len) g n cap S (hr.ex hx) hn (by simp; omega)
  have HX := Lib.hid (hx.trans hx4)
  have HX4 := Lib.hid hx4
  clear hbb hf hx hr hil
  generalize itT (Bx.runT tre0 S) = G at hp hNb
  generalize play [] S = M at hPl hml hp hMo
  have HP := Lib.hid hp
  have HNB := Lib.hid hNb
  have HMO := Lib.hid hMo
  have hn4 := hx4.obj n5
  have N4 := Lib.hid hn4
  clear hp hNb hMo n5 hx4
  have a0 : (w4.drewN 1).cell? ⟨B5, 0, none⟩ = some (.int .i64 sR.x0) := by show w4.cell? _ = _; rw [cellOf hn4]; rfl
  have a1 : (w4.drewN 1).cell? ⟨B5, 1, none⟩ = some (.int .i64 sR.y0) := by show w4.cell? _ = _; rw [cellOf hn4]; rfl
  have a2 : (w4.drewN 1).cell? ⟨B5, 2, none⟩ = some (.int .i64 sR.x1) := by show w4.cell? _ = _; rw [cellOf hn4]; rfl
  have a3 : (w4.drewN 1).cell? ⟨B5, 3, none⟩ = some (.int .i64 sR.y1) := by show w4.cell? _ = _; rw [cellOf hn4]; rfl
  have HC := And.intro a0 (And.intro a1 (And.intro a2 a3))
  clear a0 a1 a2 a3 hn4
  go_upto_region 6 with (fail)
  refine wp_region_K (fun W => W.cell? ⟨B5, 0, none⟩ = some (.int .i64 sR.x0) ∧ W.cell? ⟨B5, 1, none⟩ = some (.int .i64 sR.y0) ∧ W.cell? ⟨B5, 2, none⟩ = some (.int .i64 sR.x1) ∧ W.cell? ⟨B5, 3, none⟩ = some (.int .i64 sR.y1)) 4 (by kernel_rfl) ?_
  change wpAnyK _ _ _ _ _ 5 (Array.replicate 5 false) _ _
  (refine wpAnyK_take (i := 0) (oi := ?_) (v := ?_) ?_ ?_ ?_ ?_ ?_ ?_ ?_ ?_ ?_; rotate_left 2; (focus (simp only [List.getElem?_toArray, List.getElem?_cons_zero, List.getElem?_cons_succ]; rfl)); (focus kernel_rfl); (focus kernel_rfl); (focus kernel_rfl); (focus kernel_rfl); (focus exact fun _ _ _ h => h); (focus (refine Or.inl ⟨by rfl, ?_⟩; intro W hW; (try dsimp only at hW); go_simp; try with_reducible rfl)); (focus exact HC); (try simp only [Act.put, List.setIfInBounds_toArray, List.set_cons_zero, List.set_cons_succ]))
  (refine wpAnyK_take (i := 2) (oi := ?_) (v := ?_) ?_ ?_ ?_ ?_ ?_ ?_ ?_ ?_ ?_; rotate_left 2; (focus (simp only [List.getElem?_toArray, List.getElem?_cons_zero, List.getElem?_cons_succ]; rfl)); (focus kernel_rfl); (focus kernel_rfl); (focus kernel_rfl); (focus kernel_rfl); (focus exact fun _ _ _ h => h); (focus (refine Or.inl ⟨by rfl, ?_⟩; intro W hW; (try dsimp only at hW); go_simp; try with_reducible rfl)); (focus exact HC); (try simp only [Act.put, List.setIfInBounds_toArray, List.set_cons_zero, List.set_cons_succ]))
  have hPl := hPl (w4.drewN 1) (HX4.out.drewN 1)
  have HCX : Hid (∀ W, Mix.Ex (w4.drewN 1) W → (W.cell? ⟨B5, 0, none⟩ = some (.int .i64 sR.x0) ∧ W.cell? ⟨B5, 1, none⟩ = some (.int .i64 sR.y0) ∧ W.cell? ⟨B5, 2, none⟩ = some (.int .i64 sR.x1) ∧ W.cell? ⟨B5, 3, none⟩ = some (.int .i64 sR.y1))) := Lib.hid fun W h => ⟨h.cell HC.1, h.cell HC.2.1, h.cell HC.2.2.1, h.cell HC.2.2.2⟩
  clear HC
  (refine wpAnyK_one (i := 1) (o := ?_) ?_ ?_ ?_ (fun K hK => ?_); rotate_left 1; (focus kernel_rfl); (focus (simp only [List.getElem?_toArray, List.getElem?_cons_zero, List.getElem?_cons_succ]; rfl)); (focus rfl))
  go_simp
  refine hPl.mono ?_
  rintro e w5 ⟨v', rfl, hrow, hx5⟩
  refine hK _ _ (fun _ => HCX.out _ hx5) ?_
  clear hK K hPl
  have hD := dists_c w5 _ v' M sR hrow (by omega) HMO.out HSS.out
  obtain ⟨m, hmm⟩ : ∃ m, M.length = m := ⟨_, rfl⟩
  rw [hmm] at hD hml
  (refine wpAnyK_one (i := 3) (o := ?_) ?_ ?_ ?_ (fun K hK => ?_); rotate_left 1; (focus kernel_rfl); (focus (simp only [List.getElem?_toArray, List.getElem?_cons_zero, List.getElem?_cons_succ]; rfl)); (focus rfl))
  go_simp
  refine hD.mono ?_
  rintro e w6 ⟨Ds, gd, capd, rfl, hrd, hdp, hds, hx6⟩
  refine hK _ _ (fun _ => HCX.out _ (hx5.trans hx6)) ?_
  clear hK K hD
  have HRD := Lib.hid hrd
  have HDP := Lib.hid hdp
  have HDS := Lib.hid hds
  have HM := Lib.hid hmm
  have e46 : Mix.Ex w4 w6 := (((Mix.Ex.refl w4).drewN 1).trans hx5).trans hx6
  have HX46 := Lib.hid e46
  clear hrd hdp hds hmm hrow hx5 hx6 e46
  (refine wpAnyK_one (i := 4) (o := ?_) ?_ ?_ ?_ (fun K hK => ?_); rotate_left 1; (focus kernel_rfl); (focus (simp only [List.getElem?_toArray, List.getElem?_cons_zero, List.getElem?_cons_succ]; rfl)); (focus rfl))
  go_simp
  refine hK _ _ (fun h => absurd h (by decide +kernel)) ?_
  clear hK K HCX
  refine wpAnyK_done (by kernel_rfl) ?_ _
  have n6 := HX46.out.obj N4.out
  have q0 := cellOf n6 0
  have q1 := cellOf n6 1
  have q2 := cellOf n6 2
  have q3 := cellOf n6 3
  simp only [boxV, List.getElem?_toArray, List.getElem?_cons_zero, List.getElem?_cons_succ] at q0 q1 q2 q3
  have hNb := HNB.out w6 (HX4.out.trans HX46.out)
  clear n6
  go_wp2_with fail
  refine hNb.mono ?_
  rintro e w7 ⟨g7, cap7, O, rest, rfl, hr7, hnear, hrest, hon, hx7⟩
  clear hNb q0 q1 q2 q3
  have hlen := hnear.len hrest hon
  have hGM : G.length = m := by rw [HP.out.length_eq, HM.out]
  rw [hGM] at hlen
  obtain ⟨oo, hoo⟩ : ∃ oo, O.length = oo := ⟨_, rfl⟩
  rw [hoo] at hr7 hlen ⊢
  have hmin : ((oo : Int) != min (mx : Int) (m : Int)) = false := by
    simp only [bne_eq_false_iff_eq]
    omega
  have HO := Lib.hid hoo
  have HNR := Lib.hid hnear
  have HR7 := Lib.hid hr7
  have HX7 := Lib.hid (HX46.out.trans hx7)
  have HRD7 := Lib.hid (HRD.out.ex hx7)
  have HXW := Lib.hid ((HX.out.trans HX46.out).trans hx7)
  clear hoo hnear hr7 hx7 hrest hon hGM HRD
  go_upto_region 11 with (fail)
  clear hmin
  go_loopw [53] (fun i wr => ∃ jj : Nat, jj ≤ oo ∧ i = .int .i64 jj ∧ Mix.Ex w7 wr) (fun i _ => oo - (intOf i).toNat)
  case atStart => exact ⟨0, by omega, rfl, Mix.Ex.refl _⟩
  case round =>
    obtain ⟨jj, hj, rfl, hxr⟩ := hrel
    by_cases hlt : jj < oo
    case neg =>
      have HXR := Lib.hid hxr
      clear hxr
      go_wp2_with fail
      go_ret
      exact ⟨rfl, HXW.out.trans HXR.out⟩
    obtain ⟨y, hy⟩ : ∃ y, O[jj]? = some y := ⟨O[jj]'(by have := HO.out; omega), List.getElem?_eq_getElem _⟩
    have hW : Ds.Perm (G.map fun x => dst sR x.1) := HDP.out.trans (HP.out.map _).symm
    obtain ⟨t1, t2, t3⟩ := HNR.out.at hW HDS.out hy
    have hys := HMO.out y.1 (HP.out.mem_iff.1 t3)
    obtain ⟨l0, l1, l2, l3, l4, l5⟩ := row_cells6 (HR7.out.ex hxr) hy
    have hjm : jj < m := by
      have h1 := (List.getElem?_eq_some_iff.1 t1).1
      have h2 := HDP.out.length_eq
      rw [List.length_map, HM.out] at h2
      omega
    have d0 := row_cell1 (HRD7.out.ex hxr) t1
    have hdl : y.2 < 2 ^ 53 := by rw [t2]; exact dst_lt HSS.out.1 hys.1
    have hD := fun W => specDist_c W y.1.1 sR hys.1 HSS.out.1 hys.2 HSS.out.2
    have hdv : y.1.1.boxDist sR = (y.2 : Int) := by rw [boxDist_comm, ← dst_int, t2]
    rw [hdv] at hD
    have hne := fl_ne y.2 y.2 hdl hdl
    rw [decide_eq_false (by simp)] at hne
    have hxa := hxr.alloc (.cells (nV y).toArray 50)
    have n8 := heap_alloc_new wr (.cells (nV y).toArray 50)
    have n5 := ((Mix.Ex.refl wr).alloc (.cells (nV y).toArray 50)).obj (hxr.obj (HX7.out.obj N4.out))
    have d1 := ((Mix.Ex.refl wr).alloc (.cells (nV y).toArray 50)).cell d0
    have hlti : (jj : Int) < oo := by omega
    have hjmi : (jj : Int) < m := by omega
    clear t1 t2 t3 hW hy d0 hdv hdl hys
    go_upto_region 13 with (fail)
    change Code.wp _ _ _ _ (wr.alloc (.cells (nV y).toArray 50))
    obtain ⟨B8, hB8⟩ : ∃ B8, wr.heap.size = B8 := ⟨_, rfl⟩
    rw [hB8] at n8 ⊢
    generalize (wr.alloc (.cells (nV y).toArray 50)) = w8 at hxa n8 n5 d1 ⊢
    clear l0 l1 l2 l3 l4 l5 hxr hB8
    have l8 := (Array.getElem?_eq_some_iff.1 n8).1
    have l5 := (Array.getElem?_eq_some_iff.1 n5).1
    have ld := World.block_lt_of_cell? w8 _ d1
    dsimp only at ld
    have k0 := cellOf n8 0
    have k1 := cellOf n8 1
    have k2 := cellOf n8 2
    have k3 := cellOf n8 3
    have k4 := cellOf n8 4
    have k5 := cellOf n8 5
    have q0 := cellOf n5 0
    have q1 := cellOf n5 1
    have q2 := cellOf n5 2
    have q3 := cellOf n5 3
    simp only [nV, boxV, List.getElem?_toArray, List.getElem?_cons_zero, List.getElem?_cons_succ] at k0 k1 k2 k3 k4 k5 q0 q1 q2 q3
    have HXA := Lib.hid hxa
    clear n8 n5 hxa
    (refine Mix.wp_region_ex (by kernel_rfl) (by kernel_rfl) ?_; (repeat (go_big_quiet_step ((go_at_call 28; exact Mix.calls_qx (hD _) (fun y => ⟨_, World.ext_ext _ _ _⟩))))); refine wpQuiet_nil ?_; intro nq)
    clear k0 k1 k2 k3 k4 k5 q0 q1 q2 q3 d1 hne hD
    go_wp2_with fail
    go_roundw
    case measure => simp [intOf]; omega
    case rel => exact ⟨jj + 1, by omega, by go_num, HXA.out.ext _⟩
set_option maxRecDepth 100000 in
set_option maxHeartbeats 3200000 in
theorem nearbyAll_walk (w : World) (v : Value) (zs : List Int) (a b : Int) (h : Ints16At w v zs) (ha : -32768 ≤ a ∧ a ≤ 32767) (hb : -32768 ≤ b ∧ b ≤ 32767) :
    Calls Try.prog 5 #[v, .int .i16 a, .int .i16 b] w fun e w' => e = .returned (.bool true) ∧ Mix.Ex w w' := by
  obtain ⟨i0, hi0, hz0, hz1, hz2⟩ := info_parts info_item
  have h' := h
  obtain ⟨⟨o, cap0, rfl, hcells⟩, hle, hcap, hwf⟩ := h
  clear hcells hwf hcap
  have hBO := fun W => BoxOf_c W a b a b ha hb ha hb
  have hsS : (R.of4 a b a b).small := R.small_of4 ha hb ha hb
  generalize R.of4 a b a b = sR at hBO hsS
  go_enter Try.func5, Try.ntmps5
  go_wp2_with fail
  · go_ret
    exact ⟨rfl, Mix.Ex.refl _⟩
  refine (steps_c w _ zs h').mono ?_
  rintro e w1 ⟨g, cap, rfl, hr, hx⟩
  have hl := stepsOf_len zs
  have hok := stepsOf_ok h'
  generalize stepsOf zs = S at hr hl hok ⊢
  obtain ⟨n, hn⟩ : ∃ n, S.length = n := ⟨_, rfl⟩
  rw [hn] at hr ⊢
  go_wp2_with fail
  refine (fair_c w1 0 _ (.slice none 0 0) [] (.nil itemV_len) g n cap S hr hn (by simp; omega)).mono ?_
  rintro e w2 ⟨bb, rfl, hbb, hx2⟩
  cases bb
  · go_wp2_with fail
    go_ret
    exact ⟨rfl, hx.trans hx2⟩
  have hf := hbb rfl
  have hp := grown_fair hok hf
  have hml := play_len S []
  simp only [List.length_nil] at hml
  have hil : (itT (Bx.runT tre0 S)).length ≤ 900000 := by rw [hp.length_eq]; omega
  have hg4 : (itT (Bx.runT tre0 S)).length ≤ 400 := by rw [hp.length_eq]; omega
  have hNb := fun W (hx : Mix.Ex w1 W) => implNearby_c W S hok (by omega) _ g cap n hn (hr.ex hx) hil sR hsS 500
  have hPl := fun W (hx : Mix.Ex w1 W) => play_c W 0 _ (.slice none 0 0) [] (.nil itemV_len) g n cap S (hr.ex hx) hn (by simp; omega)
  have HX := Lib.hid (hx.trans hx2)
  clear hbb hf hx hil
  generalize itT (Bx.runT tre0 S) = G at hp hNb hg4
  generalize play [] S = M at hPl hml hp
  have HP := Lib.hid hp
  have HNB := Lib.hid hNb
  have HPL := Lib.hid hPl
  have HX2 := Lib.hid hx2
  clear hp hNb hPl hr hx2
  go_wp2_with fail
  refine (hBO _).mono ?_
  rintro e w3 ⟨rfl, hx3⟩
  have hxa := ((Mix.Ex.refl w3).alloc (.cells (boxV sR).toArray 30)).alloc (.cells #[] 35)
  have n5 := ((Mix.Ex.refl (w3.alloc (.cells (boxV sR).toArray 30))).alloc (.cells #[] 35)).obj (heap_alloc_new w3 (.cells (boxV sR).toArray 30))
  have n6 := heap_alloc_new (w3.alloc (.cells (boxV sR).toArray 30)) (.cells #[] 35)
  rw [World.size_alloc] at n6
  go_upto_region 8 with (fail)
  change Code.wp _ _ _ _ ((w3.alloc (.cells (boxV sR).toArray 30)).alloc (.cells #[] 35))
  generalize ((w3.alloc (.cells (boxV sR).toArray 30)).alloc (.cells #[] 35)) = w4 at hxa n5 n6 ⊢
  obtain ⟨B5, hB5⟩ : ∃ B5, w3.heap.size = B5 := ⟨_, rfl⟩
  obtain ⟨B6, hB6⟩ : ∃ B6, w3.heap.size + 1 = B6 := ⟨_, rfl⟩
  rw [hB6] at n6 ⊢
  rw [hB5] at n5 ⊢
  have hx24 := hx3.trans hxa
  have hs23 := hx3.below.size
  have q0 := cellOf n5 0
  have q1 := cellOf n5 1
  have q2 := cellOf n5 2
  have q3 := cellOf n5 3
  simp only [boxV, List.getElem?_toArray, List.getElem?_cons_zero, List.getElem?_cons_succ] at q0 q1 q2 q3
  have hNb := HNB.out w4 (HX2.out.trans hx24)
  have N6 := Lib.hid n6
  have HX4 := Lib.hid hx24
  clear n5 n6 hxa hx3 hx24 hBO
  go_wp2_with fail
  refine hNb.mono ?_
  rintro e w7 ⟨g7, cap7, O, rest, rfl, hr7, hnear, hrest, hon, hx7⟩
  clear hNb q0 q1 q2 q3
  have hOG : (O.map (·.1)).Perm M := by
    have h1 := hnear.perm
    have h2 := h1.length_eq
    rw [List.length_append, List.length_map] at h2
    have hre : rest = [] := by
      rcases hrest with h | h
      · exact h
      · omega
    subst hre
    rw [List.append_nil] at h1
    exact h1.trans HP.out
  have hol : O.length ≤ 900000 := by have := hon; omega
  obtain ⟨oo, hoo⟩ : ∃ oo, O.length = oo := ⟨_, rfl⟩
  rw [hoo] at hr7 hol ⊢
  have hB6l := (Array.getElem?_eq_some_iff.1 N6.out).1
  have hmade : w7.Row B6 35 5 itemV (.slice (some ⟨B6, 0, none⟩) 0 0) [] := (World.Row.made itemV_len B6 (Nat.le_refl _) N6.out).ex hx7
  have HMADE := Lib.hid hmade
  have HO := Lib.hid hoo
  have HOG := Lib.hid hOG
  have HR7 := Lib.hid (hr7.mono (base' := B6) (by omega))
  have HX7 := Lib.hid (HX4.out.trans hx7)
  have hBs : w2.heap.size ≤ B6 := by omega
  clear hoo hnear hr7 hx7 hrest hon hmade hOG N6
  go_upto_region 9 with (fail)
  go_loopw [9, 30] (fun u i wr => ∃ jj gu cu : Nat, jj ≤ oo ∧ i = .int .i64 jj ∧ u = .slice (some ⟨gu, 0, none⟩) jj cu ∧ wr.Row B6 35 5 itemV (.slice (some ⟨gu, 0, none⟩) jj cu) ((O.map (·.1)).take jj) ∧ wr.Row B6 50 6 nV (.slice (some ⟨g7, 0, none⟩) oo cap7) O ∧ Mix.Ex w2 wr) (fun _ i _ => oo - (intOf i).toNat)
  case atStart => exact ⟨0, B6, 0, by omega, rfl, rfl, HMADE.out, HR7.out, HX7.out⟩
  case round =>
    obtain ⟨jj, gu, cu, hj, rfl, rfl, hru, hrn, hxr⟩ := hrel
    by_cases hlt : jj < oo
    case neg =>
      have hjo : jj = oo := by omega
      subst hjo
      have e : (O.map (·.1)).take jj = O.map (·.1) := List.take_of_length_le (by rw [List.length_map]; have := HO.out; omega)
      rw [e] at hru
      have HRU := Lib.hid hru
      have HXR := Lib.hid hxr
      clear hru hrn hxr e
      have hPl := HPL.out wr (HX2.out.trans HXR.out)
      go_wp2_with fail
      refine hPl.mono ?_
      rintro e w8 ⟨v', rfl, hrow, hx8⟩
      have hSm := same_c w8 _ _ _ _ _ _ (HRU.out.ex hx8) hrow (by rw [List.length_map, HO.out]; exact hol) HOG.out
      obtain ⟨om, capm, rfl, -⟩ := hrow.slice
      have HX8 := Lib.hid hx8
      clear hrow hx8 hPl
      go_wp2_with fail
      refine hSm.mono ?_
      rintro e w9 ⟨rfl, hx9⟩
      go_wp2_with fail
      go_ret
      exact ⟨rfl, ((HX.out.trans HXR.out).trans HX8.out).trans hx9⟩
    obtain ⟨y, hy⟩ : ∃ y, O[jj]? = some y := ⟨O[jj]'(by have := HO.out; omega), List.getElem?_eq_getElem _⟩
    obtain ⟨l0, l1, l2, l3, l4, l5⟩ := row_cells6 hrn hy
    have hsn : (O.map (·.1)).take (jj + 1) = (O.map (·.1)).take jj ++ [y.1] := takeN_snoc (by rw [List.getElem?_map, hy]; rfl)
    have htl : ((O.map (·.1)).take jj).length = jj := by rw [List.length_take, List.length_map]; have := HO.out; omega
    have HSN := Lib.hid hsn
    have HTL := Lib.hid htl
    have hsz := hxr.below.size
    have hlti : (jj : Int) < oo := by omega
    have hgu := (hru.lt gu rfl)
    generalize (O.map (·.1)).take jj = K0 at hru HSN HTL ⊢
    have hxa := hxr.alloc (.cells (nV y).toArray 50)
    have n8 := heap_alloc_new wr (.cells (nV y).toArray 50)
    have hru8 := hru.ex ((Mix.Ex.refl wr).alloc (.cells (nV y).toArray 50))
    have hrn8 := hrn.ex ((Mix.Ex.refl wr).alloc (.cells (nV y).toArray 50))
    go_upto_region 11 with (fail)
    change Code.wp _ _ _ _ (wr.alloc (.cells (nV y).toArray 50))
    obtain ⟨B8, hB8⟩ : ∃ B8, wr.heap.size = B8 := ⟨_, rfl⟩
    rw [hB8] at n8 hgu hsz ⊢
    generalize (wr.alloc (.cells (nV y).toArray 50)) = w8 at hxa n8 hru8 hrn8 ⊢
    clear l0 l1 l2 l3 l4 l5 hxr hru hrn hsn htl hy hB8
    have l8 := (Array.getElem?_eq_some_iff.1 n8).1
    have k0 := cellOf n8 0
    have k1 := cellOf n8 1
    have k2 := cellOf n8 2
    have k3 := cellOf n8 3
    have k4 := cellOf n8 4
    simp only [nV, List.getElem?_toArray, List.getElem?_cons_zero, List.getElem?_cons_succ] at k0 k1 k2 k3 k4
    have hx9 := hxa.alloc (.cells (itemV y.1).toArray 35)
    have hru9 := hru8.ex ((Mix.Ex.refl w8).alloc (.cells (itemV y.1).toArray 35))
    have hrn9 := hrn8.ex ((Mix.Ex.refl w8).alloc (.cells (itemV y.1).toArray 35))
    have hsz8 := hxa.below.size
    clear hru8 hrn8 n8 hxa
    go_wp2_with (at_builtin; refine wpList_append_row _ rfl (.tmp 34) (.tmp 37) 26 rfl B6 35 i0 _ 5 40 Try.underlying26 hi0 hz0 hz1 hz2 rfl (by omega) itemV (.slice (some ⟨gu, 0, none⟩) jj cu) K0 y.1 rfl hru9 ⟨w8.heap.size, 0, none⟩ 1 rfl (World.news_of_block (cs := (itemV y.1).toArray) (heap_alloc_new _ _)) (itemV_one y.1) (by rw [HTL.out]; unfold maxLen; omega) (by rw [HTL.out]; omega) (by simp; omega) ?_; intro g2 cap2 w10 hr10 hg10 ho10 hlt10; rw [HTL.out] at hr10 ⊢; rw [← HSN.out] at hr10)
    have HR10 := Lib.hid hr10
    have HN10 := Lib.hid (hrn9.kept hg10 (.inr (fun e => (hrn9.apart hru9 (by decide)) g7 rfl e.symm)))
    have HX10 := Lib.hid (hx9.grown hg10 (fun j hj => by have := (hru9.lt j hj).1; omega))
    clear hr10 hg10 hx9 hru9 hrn9 k0 k1 k2 k3 k4 ho10
    go_wp2_with fail
    go_roundw
    case measure => simp [intOf]; omega
    case rel => exact ⟨jj + 1, g2, cap2, by omega, by go_num, rfl, HR10.out, HN10.out, HX10.out⟩
end Go.Proofs.Ytboeldlilkeihaa
