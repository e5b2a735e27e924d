/- The contract of Same on lists with the same items; the law on Scan: its walk. -/
import Derived.Test.YtboeldlilkeihaaSrtC
import Derived.Test.YtboeldlilkeihaaItm
import Derived.Test.YtboeldlilkeihaaLenL
set_option linter.unusedSimpArgs false
set_option linter.unusedVariables false
namespace Go.Proofs.Ytboeldlilkeihaa
open Go.RowKit Go.Bx
set_option maxRecDepth 100000 in
set_option maxHeartbeats 1600000 in
theorem same_c (w : World) (b1 b2 : Nat) (v1 v2 : Value) (L1 L2 : List (R × Int)) (h1 : w.Row b1 35 5 itemV v1 L1) (h2 : w.Row b2 35 5 itemV v2 L2) (hm : L1.length ≤ 900000) (hp : L1.Perm L2) :
    Calls Try.prog 18 #[v1, v2] w fun e w' => e = .returned (.bool true) ∧ Mix.Ex w w' := by
  have hS1 := sorted_c w b1 v1 L1 h1 hm
  have hS2 := fun W (hx : Mix.Ex w W) => sorted_c W b2 v2 L2 (h2.ex hx) (by rw [← hp.length_eq]; exact hm)
  obtain ⟨o1, c1, rfl, -⟩ := h1.slice
  obtain ⟨o2, c2, rfl, -⟩ := h2.slice
  have hl := hp.length_eq
  obtain ⟨n, hn⟩ : ∃ n, L1.length = n := ⟨_, rfl⟩
  rw [hn] at hS1 hm ⊢
  rw [← hl, hn] at hS2 ⊢
  have HP := Lib.hid hp
  have HN := Lib.hid hn
  clear h1 h2 hl hp hn
  go_enter Try.func18, Try.ntmps18
  go_wp2_with fail
  refine hS1.mono ?_
  rintro e w1 ⟨M1, g1, k1, rfl, hr1, hp1, hs1, hx1⟩
  go_wp2_with fail
  refine (hS2 _ hx1).mono ?_
  rintro e w2 ⟨M2, g2, k2, rfl, hr2, hp2, hs2, hx2⟩
  have he : M1 = M2 := hs1.uniq hs2 ((hp1.trans HP.out).trans hp2.symm)
  subst he
  have hr1 := hr1.ex hx2
  have hln : M1.length = n := by rw [hp1.length_eq, HN.out]
  have HX := Lib.hid (hx1.trans hx2)
  have HR1 := Lib.hid hr1
  have HR2 := Lib.hid hr2
  have HL := Lib.hid hln
  clear hr1 hr2 hp1 hp2 hs1 hs2 hln hx1 hx2 hS1 hS2
  go_wp2_with fail
  go_loopw [19] (fun i wr => ∃ kk : Nat, kk ≤ n ∧ i = .int .i64 kk ∧ ∃ m, wr = w2.drewN m) (fun i _ => n - (intOf i).toNat)
  case atStart => exact ⟨0, by omega, rfl, 0, rfl⟩
  case round =>
    obtain ⟨kk, hk, rfl, m, rfl⟩ := hrel
    by_cases hlt : kk < n
    case neg =>
      have hkn : kk = n := by omega
      subst hkn
      go_wp2_with fail
      go_ret
      exact ⟨rfl, HX.out.drewN _⟩
    obtain ⟨y, hy⟩ : ∃ y, M1[kk]? = some y := ⟨M1[kk]'(by have := HL.out; omega), List.getElem?_eq_getElem _⟩
    obtain ⟨a0, a1, a2, a3, a4⟩ := row_cells5 HR1.out hy
    obtain ⟨c0, c1, c2, c3, c4⟩ := row_cells5 HR2.out hy
    have hsm : sameI (⟨y.1.x0, y.1.y0, y.1.x1, y.1.y1⟩, y.2) (⟨y.1.x0, y.1.y0, y.1.x1, y.1.y1⟩, y.2) = true := by simp [sameI]
    clear hy
    go_upto_region 7 with (fail)
    (refine Mix.wp_region_dr (by kernel_rfl) (by kernel_rfl) ?_; (repeat (go_big_quiet_step (fail))); refine wpQuiet_nil ?_; intro nq)
    clear a0 a1 a2 a3 a4 c0 c1 c2 c3 c4
    go_wp2_with fail
    go_roundw
    case measure => simp [intOf]; omega
    case rel => exact ⟨kk + 1, by omega, by go_num, _, rfl⟩
set_option maxRecDepth 100000 in
set_option maxHeartbeats 1600000 in
theorem exactScan_walk (w : World) (v : Value) (zs : List Int) (h : Ints16At w v zs) :
    Calls Try.prog 10 #[v] w fun e w' => e = .returned (.bool true) ∧ Mix.Ex w w' := by
  have h' := h
  obtain ⟨⟨o, cap0, rfl, hcells⟩, hle, hcap, hwf⟩ := h
  clear hcells hwf hcap
  go_enter Try.func10, Try.ntmps10
  go_wp2_with fail
  · go_ret
    exact ⟨rfl, Mix.Ex.refl _⟩
  refine (steps_c w _ zs h').mono ?_
  rintro e w1 ⟨g, cap, rfl, hr, hx⟩
  have hl := stepsOf_len zs
  have hok := stepsOf_ok h'
  generalize stepsOf zs = S at hr hl hok ⊢
  obtain ⟨n, hn⟩ : ∃ n, S.length = n := ⟨_, rfl⟩
  rw [hn] at hr ⊢
  go_wp2_with fail
  refine (fair_c w1 0 _ (.slice none 0 0) [] (.nil itemV_len) g n cap S hr hn (by simp; omega)).mono ?_
  rintro e w2 ⟨b, rfl, hb, hx2⟩
  cases b
  · go_wp2_with fail
    go_ret
    exact ⟨rfl, hx.trans hx2⟩
  have hf := hb rfl
  have hp := grown_fair hok hf
  have hml := play_len S []
  simp only [List.length_nil] at hml
  have hil : (itT (Bx.runT tre0 S)).length ≤ 900000 := by rw [hp.length_eq]; omega
  have hL := fun W (hx : Mix.Ex w1 W) => implScan_c W S hok (by omega) _ g cap n hn (hr.ex hx) hil
  have hP := fun W (hx : Mix.Ex w1 W) => play_c W 0 _ (.slice none 0 0) [] (.nil itemV_len) g n cap S (hr.ex hx) hn (by simp; omega)
  have HS := fun W b1 b2 v1 v2 (h1 : World.Row W b1 35 5 itemV v1 (itT (Bx.runT tre0 S))) (h2 : World.Row W b2 35 5 itemV v2 (play [] S)) => same_c W b1 b2 v1 v2 _ _ h1 h2 hil hp
  have HLE := Lib.hid hp.length_eq
  clear hb hp hf hml hil
  go_wp2_with fail
  refine (hL _ hx2).mono ?_
  rintro e w3 ⟨g2, cap2, rfl, hrow3, hx3⟩
  go_wp2_with fail
  refine (hP _ (hx2.trans hx3)).mono ?_
  rintro e w4 ⟨v', rfl, hrow4, hx4⟩
  have hS := HS w4 _ _ _ _ (hrow3.ex hx4) hrow4
  obtain ⟨om, capm, rfl, -⟩ := hrow4.slice
  have HX := Lib.hid (((hx.trans hx2).trans hx3).trans hx4)
  clear hrow3 hrow4 hx hx2 hx3 hx4 HS hL hP hr
  go_wp2_with fail
  refine hS.mono ?_
  rintro e w5 ⟨rfl, hx5⟩
  go_wp2_with fail
  go_ret
  exact ⟨rfl, HX.out.trans hx5⟩
end Go.Proofs.Ytboeldlilkeihaa
