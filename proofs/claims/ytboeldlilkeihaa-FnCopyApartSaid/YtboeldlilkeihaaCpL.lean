/- The law on a tree and its copy: its walk. -/
import Derived.Test.YtboeldlilkeihaaCpI
import Derived.Test.YtboeldlilkeihaaSameC
set_option linter.unusedSimpArgs false
set_option linter.unusedVariables false
namespace Go.Proofs.Ytboeldlilkeihaa
open Go.RowKit Go.Bx
set_option maxRecDepth 100000 in
set_option maxHeartbeats 3200000 in
theorem copyApart_walk (w : World) (v1 v2 v3 : Value) (z1 z2 z3 : List Int) (h1 : Ints16At w v1 z1) (h2 : Ints16At w v2 z2) (h3 : Ints16At w v3 z3) :
    Calls Try.prog 12 #[v1, v2, v3] w fun e w' => e = .returned (.bool true) ∧ Mix.Ex w w' := by
  have H1 := Lib.hid h1
  have H2 := Lib.hid h2
  have H3 := Lib.hid h3
  obtain ⟨⟨o1, cap1, rfl, hcells⟩, hle1, hcap, hwf⟩ := h1
  clear hcells hwf hcap
  obtain ⟨⟨o2, cap2, rfl, hcells⟩, hle2, hcap, hwf⟩ := h2
  clear hcells hwf hcap
  obtain ⟨⟨o3, cap3, rfl, hcells⟩, hle3, hcap, hwf⟩ := h3
  clear hcells hwf hcap
  by_cases k1 : 2147483647 < z1.length
  · have q1 : decide ((2147483647 : Int) < (z1.length : Int)) = true := decide_eq_true (by omega)
    go_enter Try.func12, Try.ntmps12
    go_wp2_with fail
    go_ret
    exact ⟨rfl, Mix.Ex.refl _⟩
  have q1 : decide ((2147483647 : Int) < (z1.length : Int)) = false := decide_eq_false (by omega)
  by_cases k2 : 2147483647 < z2.length
  · have q2 : decide ((2147483647 : Int) < (z2.length : Int)) = true := decide_eq_true (by omega)
    go_enter Try.func12, Try.ntmps12
    go_wp2_with fail
    go_ret
    exact ⟨rfl, Mix.Ex.refl _⟩
  have q2 : decide ((2147483647 : Int) < (z2.length : Int)) = false := decide_eq_false (by omega)
  by_cases k3 : 2147483647 < z3.length
  · have q3 : decide ((2147483647 : Int) < (z3.length : Int)) = true := decide_eq_true (by omega)
    go_enter Try.func12, Try.ntmps12
    go_wp2_with fail
    go_ret
    exact ⟨rfl, Mix.Ex.refl _⟩
  have q3 : decide ((2147483647 : Int) < (z3.length : Int)) = false := decide_eq_false (by omega)
  go_enter Try.func12, Try.ntmps12
  go_wp2_with fail
  refine (steps_c w _ z1 H1.out).mono ?_
  rintro e w1 ⟨g1, c1, rfl, hr1, hx1⟩
  have hS2 := steps_c w1 _ z2 (H2.out.ex hx1)
  have HR1 := Lib.hid hr1
  have HX1 := Lib.hid hx1
  clear hr1 hx1 q1 q2 q3 k1 k2 k3
  go_wp2_with fail
  refine hS2.mono ?_
  rintro e w2 ⟨g2, c2, rfl, hr2, hx2⟩
  have hS3 := steps_c w2 _ z3 (H3.out.ex (HX1.out.trans hx2))
  have HR2 := Lib.hid hr2
  have HR12 := Lib.hid (HR1.out.ex hx2)
  have HX2 := Lib.hid (HX1.out.trans hx2)
  clear hS2 hr2 hx2 HR1
  go_wp2_with fail
  refine hS3.mono ?_
  rintro e w3 ⟨g3, c3, rfl, hr3, hx3⟩
  have hr1 := HR12.out.ex hx3
  have hr2 := HR2.out.ex hx3
  have hl1 := stepsOf_len z1
  have hl2 := stepsOf_len z2
  have hl3 := stepsOf_len z3
  have hok1 := stepsOf_ok H1.out
  have hok2 := stepsOf_ok H2.out
  have hok3 := stepsOf_ok H3.out
  have HX := Lib.hid (HX2.out.trans hx3)
  clear hS3 hx3 HR2 HR12
  generalize stepsOf z1 = S at hr1 hl1 hok1 ⊢
  generalize stepsOf z2 = P at hr2 hl2 hok2 ⊢
  generalize stepsOf z3 = Q at hr3 hl3 hok3 ⊢
  obtain ⟨n1, hn1⟩ : ∃ n, S.length = n := ⟨_, rfl⟩
  obtain ⟨n2, hn2⟩ : ∃ n, P.length = n := ⟨_, rfl⟩
  obtain ⟨n3, hn3⟩ : ∃ n, Q.length = n := ⟨_, rfl⟩
  rw [hn1] at hr1 hl1 ⊢
  rw [hn2] at hr2 hl2 ⊢
  rw [hn3] at hr3 hl3 ⊢
  have R1 := Lib.hid hr1
  have R2 := Lib.hid hr2
  have R3 := Lib.hid hr3
  have N1 := Lib.hid hn1
  have N2 := Lib.hid hn2
  have N3 := Lib.hid hn3
  have OK1 := Lib.hid hok1
  have OK2 := Lib.hid hok2
  have OK3 := Lib.hid hok3
  have hPl := play_c w3 0 _ (.slice none 0 0) [] (.nil itemV_len) g1 n1 c1 S hr1 hn1 (by simp; omega)
  have hml := play_len S []
  simp only [List.length_nil] at hml
  obtain ⟨M, hM⟩ : ∃ M, play [] S = M := ⟨_, rfl⟩
  rw [hM] at hPl hml
  have HM := Lib.hid hM
  clear hr1 hr2 hr3 hok1 hok2 hok3 hM
  go_wp2_with fail
  refine hPl.mono ?_
  rintro e w4 ⟨v', rfl, hrow, hx4⟩
  obtain ⟨om, capm, rfl, -⟩ := hrow.slice
  obtain ⟨m, hmm⟩ : ∃ m, M.length = m := ⟨_, rfl⟩
  rw [hmm] at hrow hml ⊢
  have hm4 : m ≤ 400 := by rw [hn1] at hml; omega
  have MM := Lib.hid hmm
  have ROW := Lib.hid hrow
  have HX4 := Lib.hid hx4
  have hF1 := fair_c w4 0 _ (.slice none 0 0) [] (.nil itemV_len) g1 n1 c1 S (R1.out.ex hx4) hn1 (by simp; omega)
  clear hPl hrow hx4 hmm hn1 hn2 hn3
  go_wp2_with fail
  refine hF1.mono ?_
  rintro e w5 ⟨f1, rfl, hf1, hx5⟩
  have HX5 := Lib.hid (HX4.out.trans hx5)
  have HW5 := Lib.hid (HX.out.trans (HX4.out.trans hx5))
  have ROW5 := Lib.hid (ROW.out.ex hx5)
  clear hF1 hx5
  cases f1
  · go_wp2_with fail
    go_ret
    exact ⟨rfl, HW5.out⟩
  have hF2 := fair_c w5 _ _ _ M ROW5.out g2 n2 c2 P (R2.out.ex HX5.out) N2.out (by rw [MM.out]; omega)
  go_wp2_with fail
  refine hF2.mono ?_
  rintro e w6 ⟨f2, rfl, hf2, hx6⟩
  have HX6 := Lib.hid (HX5.out.trans hx6)
  have HW6 := Lib.hid (HW5.out.trans hx6)
  have ROW6 := Lib.hid (ROW5.out.ex hx6)
  clear hF2 hx6
  cases f2
  · go_wp2_with fail
    go_ret
    exact ⟨rfl, HW6.out⟩
  have hF3 := fair_c w6 _ _ _ M ROW6.out g3 n3 c3 Q (R3.out.ex HX6.out) N3.out (by rw [MM.out]; omega)
  go_wp2_with fail
  refine hF3.mono ?_
  rintro e w7 ⟨f3, rfl, hf3, hx7⟩
  have HX7 := Lib.hid (HX6.out.trans hx7)
  have HW7 := Lib.hid (HW6.out.trans hx7)
  have ROW7 := Lib.hid (ROW6.out.ex hx7)
  clear hF3 hx7
  cases f3
  · go_wp2_with fail
    go_ret
    exact ⟨rfl, HW7.out⟩
  have p0 := grown_fair OK1.out (hf1 (by first | rfl | trivial))
  rw [HM.out] at p0
  have hT := grown_ok OK1.out
  have pa := run_fair OK2.out hT p0 (hf2 (by first | rfl | trivial))
  have pb := run_fair OK3.out hT p0 (hf3 (by first | rfl | trivial))
  have la := play_len P M
  have lb := play_len Q M
  rw [MM.out, N2.out] at la
  rw [MM.out, N3.out] at lb
  have hla : (itT (Bx.runT (Bx.runT tre0 S) P)).length ≤ 900000 := by rw [pa.length_eq]; omega
  have hlb : (itT (Bx.runT (Bx.runT tre0 S) Q)).length ≤ 900000 := by rw [pb.length_eq]; omega
  have hCp := implCopied_c w7 S P Q OK1.out OK2.out OK3.out _ g1 c1 n1 _ g2 c2 n2 _ g3 c3 n3 N1.out N2.out N3.out hl1 hl2 hl3 (R1.out.ex HX7.out) (R2.out.ex HX7.out) (R3.out.ex HX7.out) hla hlb
  have PA := Lib.hid pa
  have PB := Lib.hid pb
  clear hf1 hf2 hf3 p0 hT pa pb la lb
  generalize itT (Bx.runT (Bx.runT tre0 S) P) = GA at hCp PA hla
  generalize itT (Bx.runT (Bx.runT tre0 S) Q) = GB at hCp PB hlb
  go_wp2_with fail
  refine hCp.mono ?_
  rintro e w8 ⟨va, vb, ba, bb, rfl, hra, hrb, hx8⟩
  have hPP := play_c w8 _ _ _ M (ROW7.out.ex hx8) g2 n2 c2 P (R2.out.ex (HX7.out.trans hx8)) N2.out (by rw [MM.out]; omega)
  obtain ⟨oa, ca, rfl, -⟩ := hra.slice
  obtain ⟨ob, cb, rfl, -⟩ := hrb.slice
  have HRA := Lib.hid hra
  have HRB := Lib.hid hrb
  have HX8 := Lib.hid (HX7.out.trans hx8)
  have HW8 := Lib.hid (HW7.out.trans hx8)
  have ROW8 := Lib.hid (ROW7.out.ex hx8)
  clear hCp hra hrb hx8
  go_wp2_with fail
  refine hPP.mono ?_
  rintro e w9 ⟨vp, rfl, hrp, hx9⟩
  have hSa := same_c w9 _ _ _ _ _ _ (HRA.out.ex hx9) hrp hla PA.out
  obtain ⟨op, cp, rfl, -⟩ := hrp.slice
  have HX9 := Lib.hid (HX8.out.trans hx9)
  have HW9 := Lib.hid (HW8.out.trans hx9)
  have ROW9 := Lib.hid (ROW8.out.ex hx9)
  have HRB9 := Lib.hid (HRB.out.ex hx9)
  clear hPP hrp hx9
  go_wp2_with fail
  refine hSa.mono ?_
  rintro e w10 ⟨rfl, hx10⟩
  have hPQ := play_c w10 _ _ _ M (ROW9.out.ex hx10) g3 n3 c3 Q (R3.out.ex (HX9.out.trans hx10)) N3.out (by rw [MM.out]; omega)
  have HW10 := Lib.hid (HW9.out.trans hx10)
  have HRB10 := Lib.hid (HRB9.out.ex hx10)
  clear hSa hx10
  go_wp2_with fail
  refine hPQ.mono ?_
  rintro e w11 ⟨vq, rfl, hrq, hx11⟩
  have hSb := same_c w11 _ _ _ _ _ _ (HRB10.out.ex hx11) hrq hlb PB.out
  obtain ⟨oq, cq, rfl, -⟩ := hrq.slice
  have HW11 := Lib.hid (HW10.out.trans hx11)
  clear hPQ hrq hx11
  go_wp2_with fail
  refine hSb.mono ?_
  rintro e w12 ⟨rfl, hx12⟩
  go_wp2_with fail
  go_ret
  exact ⟨rfl, HW11.out.trans hx12⟩
end Go.Proofs.Ytboeldlilkeihaa
