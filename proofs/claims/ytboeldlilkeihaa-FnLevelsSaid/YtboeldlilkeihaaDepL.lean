/- The law on the depth: the walks of Counts, Depth and of the law. -/
import Derived.Test.YtboeldlilkeihaaCnt
set_option linter.unusedSimpArgs false
set_option linter.unusedVariables false
namespace Go.Bx
theorem lvT_len_le {S : List Stp} (hS : ∀ st ∈ S, st.ok) : (lvT (runT tre0 S)).length ≤ S.length + 1 := by
  have h := (fine0.run hS).hgt
  unfold lvT
  cases hr : (runT tre0 S).root with
  | none => simp
  | some q =>
    rw [hr] at h
    dsimp only at h ⊢
    rw [lvN_len]
    omega
theorem st0_lv : (lvT (runT tre0 [st0])).length = 1 := by rfl
end Go.Bx
namespace Go.Proofs.Ytboeldlilkeihaa
open Go.RowKit Go.Bx
theorem LvRow.slice {w : World} {base : Nat} {v : Value} {Ls : List (List Nat)} (h : LvRow w base v Ls) : ∃ o cap, v = .slice o Ls.length cap := by
  obtain ⟨D, h1, h2, _⟩ := h.ex
  obtain ⟨o, cap, h3, _⟩ := h2.slice
  exact ⟨o, cap, by rw [h3, ← h1, List.length_map]⟩
set_option maxRecDepth 100000 in
theorem implCounts_c (w : World) (S : List Stp) (hS : ∀ st ∈ S, st.ok) (hm : S.length ≤ 900000) (b0 g cap n : Nat) (hn : S.length = n) (hr : w.Row b0 37 11 stepV (.slice (some ⟨g, 0, none⟩) n cap) S) :
    Calls Try.prog 30 #[.slice (some ⟨g, 0, none⟩) n cap] w fun e w' => ∃ v, e = .returned v ∧ LvRow w' w.heap.size v (lvT (Bx.runT tre0 S)) ∧ Mix.Ex w w' := by
  have hG := grown_c w S hS hm b0 g cap (by rw [hn]; exact hr)
  have hl := grown_len hS
  have hh := lvT_len_le hS
  have hO := grown_ok hS
  rw [hn] at hG
  have hl9 : (itT (Bx.runT tre0 S)).length ≤ 900000 := by omega
  have hh9 : (lvT (Bx.runT tre0 S)).length ≤ 1000001 := by omega
  clear hl hh
  generalize Bx.runT tre0 S = T at hG hl9 hh9 hO ⊢
  go_enter Try.func30, Try.ntmps30
  go_wp2_with fail
  refine hG.mono ?_
  rintro e w2 ⟨tr, s, rfl, hM, -, -, hx⟩
  go_wp2_with fail
  refine (zzCounts_c hM hO hl9 hh9).mono ?_
  rintro e w3 ⟨v, rfl, hv, hx3⟩
  have hs := hx.below.size
  obtain ⟨o, c, rfl⟩ := hv.slice
  go_wp2_with fail
  go_ret
  obtain ⟨D, h1, h2, h3⟩ := hv.ex
  exact ⟨_, rfl, ⟨D, h1, h2.mono hs, fun x hx => (h3 x hx).mono hs⟩, hx.trans hx3⟩
set_option maxRecDepth 100000 in
theorem implDepth_c (w : World) (S : List Stp) (hS : ∀ st ∈ S, st.ok) (hm : S.length ≤ 900000) (b0 g cap n : Nat) (hn : S.length = n) (hr : w.Row b0 37 11 stepV (.slice (some ⟨g, 0, none⟩) n cap) S) :
    Calls Try.prog 31 #[.slice (some ⟨g, 0, none⟩) n cap] w fun e w' => e = .returned (.int .i64 (lvT (Bx.runT tre0 S)).length) ∧ Mix.Ex w w' := by
  have hG := grown_c w S hS hm b0 g cap (by rw [hn]; exact hr)
  have hl := grown_len hS
  have hh := lvT_len_le hS
  have hO := grown_ok hS
  rw [hn] at hG
  have hl9 : (itT (Bx.runT tre0 S)).length ≤ 900000 := by omega
  have hh9 : (lvT (Bx.runT tre0 S)).length ≤ 1000001 := by omega
  clear hl hh
  generalize Bx.runT tre0 S = T at hG hl9 hh9 hO ⊢
  go_enter Try.func31, Try.ntmps31
  go_wp2_with fail
  refine hG.mono ?_
  rintro e w2 ⟨tr, s, rfl, hM, -, -, hx⟩
  have hD : Calls Try.prog 45 #[.pointer (some ⟨tr, 0, none⟩)] w2 fun e w' => e = .returned (.int .i64 (lvT T).length) ∧ Mix.Ex w2 w' := by
    go_enter Try.func45, Try.ntmps45
    go_wp2_with fail
    refine (zzCounts_c hM hO hl9 hh9).mono ?_
    rintro e w3 ⟨v, rfl, hv, hx3⟩
    obtain ⟨o, c, rfl⟩ := hv.slice
    go_wp2_with fail
    go_ret
    exact ⟨rfl, hx3⟩
  go_wp2_with fail
  refine hD.mono ?_
  rintro e w3 ⟨rfl, hx3⟩
  go_wp2_with fail
  go_ret
  exact ⟨rfl, hx.trans hx3⟩
set_option maxRecDepth 100000 in
set_option maxHeartbeats 1600000 in
theorem depth_walk (w : World) (v : Value) (zs : List Int) (h : Ints16At w v zs) :
    Calls Try.prog 9 #[v] w fun e w' => e = .returned (.bool true) ∧ Mix.Ex w w' := by
  have h' := h
  obtain ⟨⟨o, cap0, rfl, hcells⟩, hle, hcap, hwf⟩ := h
  clear hcells hwf hcap
  go_enter Try.func9, Try.ntmps9
  go_wp2_with fail
  · go_ret
    exact ⟨rfl, Mix.Ex.refl _⟩
  refine (steps_c w _ zs h').mono ?_
  rintro e w1 ⟨g, cap, rfl, hr, hx⟩
  have hl := stepsOf_len zs
  have hok := stepsOf_ok h'
  generalize stepsOf zs = S at hr hl hok ⊢
  obtain ⟨n, hn⟩ : ∃ n, S.length = n := ⟨_, rfl⟩
  rw [hn] at hr ⊢
  have hD := implDepth_c w1 S hok (by omega) _ g cap n hn hr
  have hC := fun W (hx : Mix.Ex w1 W) => implCounts_c W S hok (by omega) _ g cap n hn (hr.ex hx)
  generalize lvT (Bx.runT tre0 S) = Ls at hD hC
  go_wp2_with fail
  refine hD.mono ?_
  rintro e w2 ⟨rfl, hx2⟩
  go_wp2_with fail
  refine (hC _ hx2).mono ?_
  rintro e w3 ⟨v3, rfl, hv, hx3⟩
  obtain ⟨o3, c3, rfl⟩ := hv.slice
  have hx13 := (hx.trans hx2).trans hx3
  have hxa := (Mix.Ex.refl w3).alloc (.cells (stepV st0).toArray 37)
  have hone : (w3.alloc (.cells (stepV st0).toArray 37)).Row 0 37 11 stepV (.slice (some ⟨w3.heap.size, 0, none⟩) 1 1) [st0] := World.Row.one stepV_len (Nat.zero_le _) (heap_alloc_new _ _)
  have hLo := implDepth_c (w3.alloc (.cells (stepV st0).toArray 37)) [st0] st0_ok (by simp) 0 w3.heap.size 1 1 rfl hone
  rw [st0_lv] at hLo
  have HX := Lib.hid (hx13.trans hxa)
  clear hone hx hx2 hx3 hD hC hv hr hxa hx13
  go_wp2_with fail
  refine hLo.mono ?_
  rintro e w6 ⟨rfl, hx6⟩
  go_wp2_with fail
  go_ret
  exact ⟨rfl, HX.out.trans hx6⟩
end Go.Proofs.Ytboeldlilkeihaa
