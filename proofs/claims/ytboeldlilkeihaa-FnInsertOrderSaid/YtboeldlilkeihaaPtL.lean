/- The law that an item is found at its corner: its walk. -/
import Derived.Test.YtboeldlilkeihaaEmp
set_option linter.unusedSimpArgs false
set_option linter.unusedVariables false
namespace Go.Bx
theorem hit_corner {x : R × Int} (h : x.1.ok) : hit ⟨x.1.x1, x.1.y1, x.1.x1, x.1.y1⟩ x = true := by
  unfold R.ok at h
  unfold hit R.intersects
  simp
  omega
end Go.Bx
namespace Go.Proofs.Ytboeldlilkeihaa
open Go.RowKit Go.Bx
set_option maxRecDepth 100000 in
set_option maxHeartbeats 1600000 in
theorem searchPoint_walk (w : World) (v : Value) (zs : List Int) (k : Int) (h : Ints16At w v zs) (hk : 0 ≤ k ∧ k ≤ 65535) :
    Calls Try.prog 15 #[v, .int .u16 k] w fun e w' => e = .returned (.bool true) ∧ Mix.Ex w w' := by
  obtain ⟨K, rfl⟩ : ∃ K : Nat, k = K := ⟨k.toNat, by omega⟩
  have h' := h
  obtain ⟨⟨o, cap0, rfl, hcells⟩, hle, hcap, hwf⟩ := h
  clear hcells hwf hcap
  go_enter Try.func15, Try.ntmps15
  go_wp2_with fail
  · go_ret
    exact ⟨rfl, Mix.Ex.refl _⟩
  refine (steps_c w _ zs h').mono ?_
  rintro e w1 ⟨g, cap, rfl, hr, hx⟩
  have hl := stepsOf_len zs
  have hok := stepsOf_ok h'
  generalize stepsOf zs = S at hr hl hok ⊢
  obtain ⟨n, hn⟩ : ∃ n, S.length = n := ⟨_, rfl⟩
  rw [hn] at hr ⊢
  go_wp2_with fail
  refine (fair_c w1 0 _ (.slice none 0 0) [] (.nil itemV_len) g n cap S hr hn (by simp; omega)).mono ?_
  rintro e w2 ⟨b, rfl, hb, hx2⟩
  cases b
  · go_wp2_with fail
    go_ret
    exact ⟨rfl, hx.trans hx2⟩
  have hf := hb rfl
  have hp := grown_fair hok hf
  have hml := play_len S []
  simp only [List.length_nil] at hml
  have hMo := play_ok (L := []) hok (fun x h => by cases h)
  have hil : (itT (Bx.runT tre0 S)).length ≤ 900000 := by rw [hp.length_eq]; omega
  have hSr := fun W (hx : Mix.Ex w1 W) sR => implSearch_c W S hok (by omega) _ g cap n hn (hr.ex hx) hil sR
  have hPl := play_c w2 0 _ (.slice none 0 0) [] (.nil itemV_len) g n cap S (hr.ex hx2) hn (by simp; omega)
  have HX := Lib.hid hx
  have HX2 := Lib.hid hx2
  clear hb hf hx
  generalize itT (Bx.runT tre0 S) = G at hSr hil hp
  generalize play [] S = M at hPl hml hp hMo
  have HP := Lib.hid hp
  have HMO := Lib.hid hMo
  have HSR := Lib.hid hSr
  clear hp hMo hSr hr
  go_wp2_with fail
  refine hPl.mono ?_
  rintro e w3 ⟨v', rfl, hrow, hx3⟩
  obtain ⟨om, capm, rfl, hom⟩ := hrow.slice
  obtain ⟨m, hmm⟩ : ∃ m, M.length = m := ⟨_, rfl⟩
  rw [hmm] at hrow hom hml ⊢
  have HM := Lib.hid hmm
  have hx23 := hx2.trans hx3
  clear hmm hPl hx2 hx3
  by_cases hm0 : m = 0
  · have hM0 : M = [] := List.length_eq_zero_iff.1 (by have := HM.out; omega)
    have hG0 : G = [] := by have := HP.out; rw [hM0] at this; exact List.Perm.eq_nil this
    have hS0 := HSR.out w3 hx23 (⟨-40000, -40000, 40000, 40000⟩ : R)
    rw [hG0] at hS0
    dsimp only at hS0
    simp only [List.filter_nil, List.length_nil] at hS0
    subst hm0
    clear hM0 hG0 hrow
    go_wp2_with fail
    refine hS0.mono ?_
    rintro e w4 ⟨g4, c4, rfl, -, hx4⟩
    have hx24 := hx23.trans hx4
    have hxa := (Mix.Ex.refl w4).alloc (.cells (stepV st0).toArray 37)
    have hone : (w4.alloc (.cells (stepV st0).toArray 37)).Row 0 37 11 stepV (.slice (some ⟨w4.heap.size, 0, none⟩) 1 1) [st0] := World.Row.one stepV_len (Nat.zero_le _) (heap_alloc_new _ _)
    have hLo := implLen_c (w4.alloc (.cells (stepV st0).toArray 37)) [st0] st0_ok (by simp) 0 w4.heap.size 1 1 rfl hone
    rw [st0_len] at hLo
    clear hone hS0 hx4
    go_wp2_with fail
    refine hLo.mono ?_
    rintro e w6 ⟨rfl, hx6⟩
    go_wp2_with fail
    go_ret
    exact ⟨rfl, (HX.out.trans hx24).trans (hxa.trans hx6)⟩
  obtain ⟨gm, rfl⟩ := hom (by omega)
  obtain ⟨q, hq⟩ : ∃ q, K % m = q := ⟨_, rfl⟩
  have hqm : q < m := by rw [← hq]; exact Nat.mod_lt _ (by omega)
  obtain ⟨x, hxq⟩ : ∃ x, M[q]? = some x := ⟨M[q]'(by have := HM.out; omega), List.getElem?_eq_getElem _⟩
  obtain ⟨l0, l1, l2, l3, l4⟩ := row_cells5 hrow hxq
  have hti : Int.tmod (K : Int) m = q := by rw [← hq]; exact (Int.ofNat_tmod K m).symm
  have hmz : (m : Int) ≠ 0 := by omega
  have hxm : x ∈ M := List.mem_of_getElem? hxq
  have hxf : x ∈ G.filter (hit ⟨x.1.x1, x.1.y1, x.1.x1, x.1.y1⟩) := List.mem_filter.2 ⟨HP.out.mem_iff.2 hxm, hit_corner (HMO.out x hxm).2⟩
  have HXF := Lib.hid hxf
  have hSr := fun W (hx : Mix.Ex w3 W) => HSR.out W (hx23.trans hx) (⟨x.1.x1, x.1.y1, x.1.x1, x.1.y1⟩ : R)
  dsimp only at hSr
  generalize hFg : G.filter (hit ⟨x.1.x1, x.1.y1, x.1.x1, x.1.y1⟩) = F at hSr HXF
  have hFl : F.length ≤ 900000 := by rw [← hFg]; exact Nat.le_trans (List.length_filter_le _ _) hil
  clear hxm hxf hFg hxq hq
  have hxa := (Mix.Ex.refl w3).alloc (.cells (itemV x).toArray 35)
  have n7 := heap_alloc_new w3 (.cells (itemV x).toArray 35)
  go_upto_region 10 with (fail)
  change Code.wp _ _ _ _ (w3.alloc (.cells (itemV x).toArray 35))
  generalize hB7 : w3.heap.size = B7 at n7 ⊢
  generalize (w3.alloc (.cells (itemV x).toArray 35)) = w4 at hxa n7 ⊢
  have hl4 := (Array.getElem?_eq_some_iff.1 n7).1
  have k0 := cellOf n7 0
  have k1 := cellOf n7 1
  have k2 := cellOf n7 2
  have k3 := cellOf n7 3
  have k4 := cellOf n7 4
  simp only [itemV, List.getElem?_toArray, List.getElem?_cons_zero, List.getElem?_cons_succ] at k0 k1 k2 k3 k4
  clear l0 l1 l2 l3 l4
  have hxb := (Mix.Ex.refl w4).alloc (.cells (boxV ⟨x.1.x1, x.1.y1, x.1.x1, x.1.y1⟩).toArray 30)
  have hS := hSr _ (hxa.trans hxb)
  have N7 := Lib.hid n7
  have HXA := Lib.hid hxa
  clear hSr n7 hxa
  go_wp2_with fail
  refine hS.mono ?_
  rintro e w5 ⟨g5, c5, rfl, hrF, hx5⟩
  obtain ⟨f, hfl⟩ : ∃ f, F.length = f := ⟨_, rfl⟩
  rw [hfl] at hrF hFl ⊢
  have HF := Lib.hid hfl
  have HRF := Lib.hid hrF
  have N5 := Lib.hid ((hxb.trans hx5).obj N7.out)
  have HX5 := Lib.hid (((HX.out.trans hx23).trans HXA.out).trans (hxb.trans hx5))
  clear hfl hrF hS hxb hx5 k0 k1 k2 k3 k4 hl4
  go_wp2_with fail
  go_loopw [56] (fun i wr => ∃ jj : Nat, jj ≤ f ∧ i = .int .i64 jj ∧ Hid (∀ j y, j < jj → F[j]? = some y → y ≠ x) ∧ Mix.Ex w5 wr) (fun i _ => f - (intOf i).toNat)
  case atStart => exact ⟨0, by omega, rfl, Lib.hid (fun j y hj => by omega), Mix.Ex.refl _⟩
  case round =>
    obtain ⟨jj, hj, rfl, HH, hx⟩ := hrel
    by_cases hlj : jj < f
    case neg =>
      exfalso
      obtain ⟨j, hj'⟩ := List.mem_iff_getElem?.1 HXF.out
      exact HH.out j x (by have := (List.getElem?_eq_some_iff.1 hj').1; have := HF.out; omega) hj' rfl
    obtain ⟨y, hy⟩ : ∃ y, F[jj]? = some y := ⟨F[jj]'(by have := HF.out; omega), List.getElem?_eq_getElem _⟩
    obtain ⟨l0, l1, l2, l3, l4⟩ := row_cells5 (HRF.out.ex hx) hy
    have n7 := hx.obj N5.out
    have hl7 := (Array.getElem?_eq_some_iff.1 n7).1
    have k0 := cellOf n7 0
    have k1 := cellOf n7 1
    have k2 := cellOf n7 2
    have k3 := cellOf n7 3
    have k4 := cellOf n7 4
    simp only [itemV, List.getElem?_toArray, List.getElem?_cons_zero, List.getElem?_cons_succ] at k0 k1 k2 k3 k4
    have hxy := hx.alloc (.cells (itemV y).toArray 35)
    have HXY := Lib.hid hxy
    have hnx : y ≠ x → Hid (∀ j z, j < jj + 1 → F[j]? = some z → z ≠ x) := fun hb => Lib.hid fun j z hj hs => by
      by_cases hjk : j < jj
      · exact HH.out j z hjk hs
      · have : j = jj := by omega
        subst this
        rw [hy] at hs
        cases hs
        exact hb
    have HNX := Lib.hid hnx
    clear hnx n7 hx hxy hy
    obtain ⟨d, hd⟩ : ∃ d, sameI (⟨y.1.x0, y.1.y0, y.1.x1, y.1.y1⟩, y.2) (⟨x.1.x0, x.1.y0, x.1.x1, x.1.y1⟩, x.2) = d := ⟨_, rfl⟩
    have HD := Lib.hid hd
    cases d
    · have hfin := HNX.out (of_decide_eq_false HD.out)
      go_wp2_with fail
      go_roundw
      case measure => simp [intOf]; omega
      case rel => exact ⟨jj + 1, by omega, by go_num, hfin, HXY.out⟩
    · go_wp2_with fail
      go_ret
      exact ⟨rfl, HX5.out.trans HXY.out⟩
end Go.Proofs.Ytboeldlilkeihaa
