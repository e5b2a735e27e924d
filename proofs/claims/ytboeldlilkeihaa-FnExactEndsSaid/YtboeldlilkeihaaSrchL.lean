/- The law that a search finds what meets the box: its walk. -/
import Derived.Test.YtboeldlilkeihaaZSrch
import Derived.Test.YtboeldlilkeihaaSameC
set_option linter.unusedSimpArgs false
set_option linter.unusedVariables false
namespace Go.Proofs.Ytboeldlilkeihaa
open Go.RowKit Go.Bx
set_option maxRecDepth 100000 in
set_option maxHeartbeats 1600000 in
theorem exactSearch_walk (w : World) (v : Value) (zs : List Int) (a b c d : Int) (h : Ints16At w v zs) (ha : -32768 ≤ a ∧ a ≤ 32767) (hb : -32768 ≤ b ∧ b ≤ 32767) (hc : -32768 ≤ c ∧ c ≤ 32767) (hd : -32768 ≤ d ∧ d ≤ 32767) :
    Calls Try.prog 13 #[v, .int .i16 a, .int .i16 b, .int .i16 c, .int .i16 d] w fun e w' => e = .returned (.bool true) ∧ Mix.Ex w w' := by
  obtain ⟨i0, hi0, hz0, hz1, hz2⟩ := info_parts info_item
  have h' := h
  obtain ⟨⟨o, cap0, rfl, hcells⟩, hle, hcap, hwf⟩ := h
  clear hcells hwf hcap
  have hBO := fun W => BoxOf_c W a b c d ha hb hc hd
  generalize R.of4 a b c d = sR at hBO
  go_enter Try.func13, Try.ntmps13
  go_wp2_with fail
  · go_ret
    exact ⟨rfl, Mix.Ex.refl _⟩
  refine (steps_c w _ zs h').mono ?_
  rintro e w1 ⟨g, cap, rfl, hr, hx⟩
  have hl := stepsOf_len zs
  have hok := stepsOf_ok h'
  generalize stepsOf zs = S at hr hl hok ⊢
  obtain ⟨n, hn⟩ : ∃ n, S.length = n := ⟨_, rfl⟩
  rw [hn] at hr ⊢
  go_wp2_with fail
  refine (hBO _).mono ?_
  rintro e w2 ⟨rfl, hx2⟩
  have hr := hr.ex hx2
  have hx := hx.trans hx2
  clear hBO hx2
  go_upto_region 4 with (fail)
  have hxa := (Mix.Ex.refl w2).alloc (.cells (boxV sR).toArray 30)
  have n5 := heap_alloc_new w2 (.cells (boxV sR).toArray 30)
  change Code.wp _ _ _ _ (w2.alloc (.cells (boxV sR).toArray 30))
  generalize hB5 : w2.heap.size = B5 at n5 ⊢
  generalize (w2.alloc (.cells (boxV sR).toArray 30)) = w3 at hxa n5 ⊢
  have hr := hr.ex hxa
  have hx := hx.trans hxa
  clear hxa
  go_wp2_with fail
  refine (fair_c w3 0 _ (.slice none 0 0) [] (.nil itemV_len) g n cap S hr hn (by simp; omega)).mono ?_
  rintro e w4 ⟨b, rfl, hb, hx4⟩
  cases b
  · go_wp2_with fail
    go_ret
    exact ⟨rfl, hx.trans hx4⟩
  have hf := hb rfl
  have hp := grown_fair hok hf
  have hml := play_len S []
  simp only [List.length_nil] at hml
  have hil : (itT (Bx.runT tre0 S)).length ≤ 900000 := by rw [hp.length_eq]; omega
  have hL := fun W (hx : Mix.Ex w3 W) => implSearch_c W S hok (by omega) _ g cap n hn (hr.ex hx) hil sR
  have hPl := fun W (hx : Mix.Ex w3 W) => play_c W 0 _ (.slice none 0 0) [] (.nil itemV_len) g n cap S (hr.ex hx) hn (by simp; omega)
  have hpf := hp.filter (hit sR)
  have hfl : ((itT (Bx.runT tre0 S)).filter (hit sR)).length ≤ 900000 := Nat.le_trans (List.length_filter_le _ _) hil
  have HS := Lib.hid (fun W b1 b2 v1 v2 (h1 : World.Row W b1 35 5 itemV v1 ((itT (Bx.runT tre0 S)).filter (hit sR))) (h2 : World.Row W b2 35 5 itemV v2 ((play [] S).filter (hit sR))) => same_c W b1 b2 v1 v2 _ _ h1 h2 hfl hpf)
  have hle2 : ((itT (Bx.runT tre0 S)).filter (hit sR)).length = ((play [] S).filter (hit sR)).length := hpf.length_eq
  have HLE := Lib.hid hle2
  have HL := Lib.hid hL
  have HX := Lib.hid hx
  have HX4 := Lib.hid hx4
  clear hb hp hf hil hpf hle2 hfl hL hx hr
  generalize (itT (Bx.runT tre0 S)).filter (hit sR) = G at HS HLE HL
  generalize play [] S = M at hPl hml HS HLE
  go_upto_region 7 with (fail)
  have hxa4 := (Mix.Ex.refl w4).alloc (.cells #[] 35)
  have hxa := hx4.trans hxa4
  have n6 := heap_alloc_new w4 (.cells #[] 35)
  change Code.wp _ _ _ _ (w4.alloc (.cells #[] 35))
  generalize hB6 : w4.heap.size = B6 at n6 ⊢
  generalize (w4.alloc (.cells #[] 35)) = w6 at hxa hxa4 n6 ⊢
  go_wp2_with fail
  refine (hPl _ hxa).mono ?_
  rintro e w7 ⟨v', rfl, hrow, hx7⟩
  have hmade : w7.Row B6 35 5 itemV (.slice (some ⟨B6, 0, none⟩) 0 0) [] := (World.Row.made itemV_len B6 (Nat.le_refl _) n6).ex hx7
  have hx47 : Mix.Ex w4 w7 := hxa4.trans hx7
  have n7 := (hx4.trans hx47).obj n5
  have hB6l := (Array.getElem?_eq_some_iff.1 n6).1
  obtain ⟨om, capm, rfl, hom⟩ := hrow.slice
  obtain ⟨m, hmm⟩ : ∃ m, M.length = m := ⟨_, rfl⟩
  rw [hmm] at hrow hom hml ⊢
  have hne : Value.ownBlock (.slice om m capm) ≠ some B6 := fun e => by have := (hrow.lt _ e).1; omega
  have HNE := Lib.hid hne
  have HM := Lib.hid hmm
  have HROW := Lib.hid hrow
  have HMADE := Lib.hid hmade
  have HX47 := Lib.hid hx47
  have N4 := Lib.hid (hx4.obj n5)
  clear hne hmade hrow hmm hPl n5 n6 n7 hxa hx7 hx47 hx4 hxa4
  go_upto_region 8 with (fail)
  go_loopw [13, 33] (fun u i wr => ∃ jj gu cu : Nat, jj ≤ m ∧ i = .int .i64 jj ∧ u = .slice (some ⟨gu, 0, none⟩) ((M.take jj).filter (hit sR)).length cu ∧ wr.Row B6 35 5 itemV u ((M.take jj).filter (hit sR)) ∧
      wr.Row 0 35 5 itemV (.slice om m capm) M ∧ Value.ownBlock (.slice om m capm) ≠ some gu ∧ Mix.Ex w4 wr) (fun _ i _ => m - (intOf i).toNat)
  case atStart => exact ⟨0, B6, 0, by omega, rfl, rfl, HMADE.out, HROW.out.mono (Nat.zero_le _), HNE.out, HX47.out⟩
  case round =>
    obtain ⟨jj, gu, cu, hj, rfl, rfl, hru, hrm, hne, hx⟩ := hrel
    have hb5 := hx.obj N4.out
    have hbl := (Array.getElem?_eq_some_iff.1 hb5).1
    by_cases hlj : jj < m
    case neg =>
      have e : M.take jj = M := List.take_of_length_le (by have := HM.out; omega)
      rw [e] at hru ⊢
      have hjm : jj = m := by omega
      subst hjm
      have q0 := cellOf hb5 0
      have q1 := cellOf hb5 1
      have q2 := cellOf hb5 2
      have q3 := cellOf hb5 3
      simp only [boxV, List.getElem?_toArray, List.getElem?_cons_zero, List.getElem?_cons_succ] at q0 q1 q2 q3
      have hS := HL.out wr (HX4.out.trans hx)
      have HRU := Lib.hid hru
      have HXR := Lib.hid hx
      clear hru hrm hne hx hb5 e
      go_wp2_with fail
      refine hS.mono ?_
      rintro e w8 ⟨g8, c8, rfl, hr8, hx8⟩
      have hSm := HS.out w8 _ _ _ _ hr8 (HRU.out.ex hx8)
      rw [HLE.out] at hSm ⊢
      have HX8 := Lib.hid hx8
      clear hr8 hx8 hS q0 q1 q2 q3
      go_wp2_with fail
      refine hSm.mono ?_
      rintro e w9 ⟨rfl, hx9⟩
      go_wp2_with fail
      go_ret
      exact ⟨rfl, (((HX.out.trans HX4.out).trans HXR.out).trans HX8.out).trans hx9⟩
    obtain ⟨gm, rfl⟩ := hom (by omega)
    obtain ⟨x, hxj⟩ : ∃ x, M[jj]? = some x := ⟨M[jj]'(by have := HM.out; omega), List.getElem?_eq_getElem _⟩
    obtain ⟨l0, l1, l2, l3, l4⟩ := row_cells5 hrm hxj
    have hsn : (M.take (jj + 1)).filter (hit sR) = (M.take jj).filter (hit sR) ++ (if x.1.intersects sR then [x] else []) := by
      rw [takeN_snoc hxj, List.filter_append]
      congr 1
      simp only [List.filter_cons, List.filter_nil, hit]
      rfl
    have hkl : ((M.take jj).filter (hit sR)).length ≤ 900000 := Nat.le_trans (List.length_filter_le _ _) (by rw [List.length_take]; omega)
    have HSN := Lib.hid hsn
    have hsz := hx.below.size
    clear hsn hxj
    generalize (M.take jj).filter (hit sR) = K0 at hru HSN hkl ⊢
    have hxa := (Mix.Ex.refl wr).alloc (.cells (itemV x).toArray 35)
    have n8 := heap_alloc_new wr (.cells (itemV x).toArray 35)
    go_upto_region 10 with (fail)
    change Code.wp _ _ _ _ (wr.alloc (.cells (itemV x).toArray 35))
    generalize hB8 : wr.heap.size = B8 at n8 hsz ⊢
    generalize (wr.alloc (.cells (itemV x).toArray 35)) = w8 at hxa n8 ⊢
    have hb8 := hxa.obj hb5
    have l8 := (Array.getElem?_eq_some_iff.1 n8).1
    have hru := hru.ex hxa
    have hrm := hrm.ex hxa
    have hx := hx.trans hxa
    have HRU := Lib.hid hru
    have HRM := Lib.hid hrm
    have HNE8 := Lib.hid hne
    have HX8 := Lib.hid hx
    have N8 := Lib.hid n8
    have q0 := cellOf hb8 0
    have q1 := cellOf hb8 1
    have q2 := cellOf hb8 2
    have q3 := cellOf hb8 3
    have k0 := cellOf n8 0
    have k1 := cellOf n8 1
    have k2 := cellOf n8 2
    have k3 := cellOf n8 3
    simp only [boxV, itemV, List.getElem?_toArray, List.getElem?_cons_zero, List.getElem?_cons_succ] at q0 q1 q2 q3 k0 k1 k2 k3
    clear l0 l1 l2 l3 l4 hb5 hb8 hru hrm hne hx hxa n8
    have hMt := fun W => specMeet_c W x.1 sR
    cases hit? : x.1.intersects sR
    · rw [hit?] at hMt
      have hfin : (M.take (jj + 1)).filter (hit sR) = K0 := by rw [HSN.out, hit?]; simp
      have HF := Lib.hid hfin
      clear hit? hfin HSN
      go_wp2_with fail
      refine (hMt _).mono ?_
      rintro e w9 ⟨rfl, hx9⟩
      clear hMt q0 q1 q2 q3 k0 k1 k2 k3
      go_wp2_with fail
      go_roundw
      case measure => simp [intOf]; omega
      case rel => exact ⟨jj + 1, gu, cu, by omega, by go_num, by rw [HF.out], by rw [HF.out]; exact HRU.out.ex hx9, HRM.out.ex hx9, HNE8.out, HX8.out.trans hx9⟩
    · rw [hit?] at hMt
      have hfin : (M.take (jj + 1)).filter (hit sR) = K0 ++ [x] := by rw [HSN.out, hit?]; rfl
      have HF := Lib.hid hfin
      clear hit? hfin HSN
      go_wp2_with fail
      refine (hMt _).mono ?_
      rintro e w9 ⟨rfl, hx9⟩
      clear hMt q0 q1 q2 q3 k0 k1 k2 k3
      have n9 := hx9.obj N8.out
      have hru9 := HRU.out.ex hx9
      have hrm9 := HRM.out.ex hx9
      have hxw9 := HX8.out.trans hx9
      have hB9 := hxw9.below.size
      have l9 := (Array.getElem?_eq_some_iff.1 n9).1
      have k0 := cellOf n9 0
      have k1 := cellOf n9 1
      have k2 := cellOf n9 2
      have k3 := cellOf n9 3
      have k4 := cellOf n9 4
      simp only [itemV, List.getElem?_toArray, List.getElem?_cons_zero, List.getElem?_cons_succ] at k0 k1 k2 k3 k4
      have hxa := (Mix.Ex.refl w9).alloc (.cells (itemV x).toArray 35)
      have hruA := hru9.ex hxa
      have hrmA := hrm9.ex hxa
      have hxwA := hxw9.trans hxa
      have hrml := (hrm9.lt gm rfl).2
      clear n9 hx9 hru9 hrm9 hxw9
      have HRMA := Lib.hid hrmA
      have HXA := Lib.hid hxwA
      clear hrmA hxwA hxa
      go_wp2_with (at_builtin; refine wpList_append_row _ rfl (.tmp 41) (.tmp 43) 26 rfl B6 35 i0 _ 5 40 Try.underlying26 hi0 hz0 hz1 hz2 rfl (by omega) itemV (.slice (some ⟨gu, 0, none⟩) K0.length cu) K0 x rfl hruA ⟨w9.heap.size, 0, none⟩ 1 rfl (World.news_of_block (heap_alloc_new _ _)) (itemV_one x) (by unfold maxLen; omega) (by omega) (by simp; omega) ?_; intro g2 cap2 wA hrA hgrow hat2 hlt2)
      have hxf := HXA.out.grown hgrow (fun j hj => by have := (hruA.lt j hj).1; omega)
      have hrmF := HRMA.out.kept hgrow (.inr HNE8.out)
      have hneF : Value.ownBlock (.slice (some ⟨gm, 0, none⟩) m capm) ≠ some g2 := by
        rcases hat2 with h2 | h2
        · intro e
          simp only [Value.ownBlock, Option.some.injEq] at h2 e
          exact HNE8.out (by simp only [Value.ownBlock]; rw [e, h2])
        · intro e
          simp only [Value.ownBlock, Option.some.injEq] at e
          simp at h2
          omega
      rw [← HF.out] at hrA
      have hlen : K0.length + 1 = ((M.take (jj + 1)).filter (hit sR)).length := by rw [HF.out, List.length_append]; rfl
      rw [hlen] at hrA ⊢
      go_roundw
      case measure => simp [intOf]; omega
      case rel => exact ⟨jj + 1, g2, cap2, by omega, by go_num, rfl, hrA, hrmF, hneF, hxf⟩
end Go.Proofs.Ytboeldlilkeihaa
