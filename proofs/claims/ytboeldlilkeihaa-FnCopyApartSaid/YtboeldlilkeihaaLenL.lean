/- The law that a tree's length is the list's: its walk. -/
import Derived.Test.YtboeldlilkeihaaRefB
import Derived.Test.YtboeldlilkeihaaGrow
set_option linter.unusedSimpArgs false
set_option linter.unusedVariables false
namespace Go.Proofs.Ytboeldlilkeihaa
open Go.RowKit Go.Bx
set_option maxRecDepth 100000 in
theorem treeLen_c {c : Int} {Z : Nat → Prop} {w : World} {p : Nat} {T : Tre} {cw : Value} {s : Nat → Prop} (hM : TreeM c Z w p T cw s) :
    Calls Try.prog 41 #[.pointer (some ⟨p, 0, none⟩)] w fun e w' => e = .returned (.int .i64 T.cnt) ∧ w' = w := by
  obtain ⟨rt, hT, -⟩ := hM.at_
  have h1 : w.cell? ⟨p, 1, none⟩ = some (.int .i64 T.cnt) := by
    unfold TreeAt at hT
    rw [cellOf hT]; rfl
  go_enter Try.func41, Try.ntmps41
  go_wp2_with fail
  go_ret
  exact ⟨rfl, rfl⟩
set_option maxRecDepth 100000 in
theorem implLen_c (w : World) (S : List Stp) (hS : ∀ st ∈ S, st.ok) (hm : S.length ≤ 900000) (b0 g cap n : Nat) (hn : S.length = n) (hr : w.Row b0 37 11 stepV (.slice (some ⟨g, 0, none⟩) n cap) S) :
    Calls Try.prog 22 #[.slice (some ⟨g, 0, none⟩) n cap] w fun e w' => e = .returned (.int .i64 (itT (Bx.runT tre0 S)).length) ∧ Mix.Ex w w' := by
  have hG := grown_c w S hS hm b0 g cap (by rw [hn]; exact hr)
  rw [hn] at hG
  go_enter Try.func22, Try.ntmps22
  go_wp2_with fail
  refine hG.mono ?_
  rintro e w2 ⟨tr, s, rfl, hM, -, -, hx⟩
  have hc := (grown_ok hS).cnt
  go_wp2_with fail
  refine (treeLen_c hM).mono ?_
  rintro e w3 ⟨rfl, rfl⟩
  rw [hc]
  go_wp2_with fail
  go_ret
  exact ⟨rfl, hx⟩
set_option maxRecDepth 100000 in
set_option maxHeartbeats 1600000 in
theorem exactLen_walk (w : World) (v : Value) (zs : List Int) (h : Ints16At w v zs) :
    Calls Try.prog 6 #[v] w fun e w' => e = .returned (.bool true) ∧ Mix.Ex w w' := by
  have h' := h
  obtain ⟨⟨o, cap0, rfl, hcells⟩, hle, hcap, hwf⟩ := h
  clear hcells hwf hcap
  go_enter Try.func6, Try.ntmps6
  go_wp2_with fail
  · go_ret
    exact ⟨rfl, Mix.Ex.refl _⟩
  refine (steps_c w _ zs h').mono ?_
  rintro e w1 ⟨g, cap, rfl, hr, hx⟩
  have hl := stepsOf_len zs
  have hok := stepsOf_ok h'
  generalize stepsOf zs = S at hr hl hok ⊢
  obtain ⟨n, hn⟩ : ∃ n, S.length = n := ⟨_, rfl⟩
  rw [hn] at hr ⊢
  go_wp2_with fail
  refine (fair_c w1 0 _ (.slice none 0 0) [] (.nil itemV_len) g n cap S hr hn (by simp; omega)).mono ?_
  rintro e w2 ⟨b, rfl, hb, hx2⟩
  cases b
  · go_wp2_with fail
    go_ret
    exact ⟨rfl, hx.trans hx2⟩
  have hf := hb rfl
  have hp := (grown_fair hok hf).length_eq
  have hL := fun W (hx : Mix.Ex w1 W) => implLen_c W S hok (by omega) _ g cap n hn (hr.ex hx)
  have hP := fun W (hx : Mix.Ex w1 W) => play_c W 0 _ (.slice none 0 0) [] (.nil itemV_len) g n cap S (hr.ex hx) hn (by simp; omega)
  clear hb
  go_wp2_with fail
  refine (hL _ hx2).mono ?_
  rintro e w3 ⟨rfl, hx3⟩
  go_wp2_with fail
  refine (hP _ (hx2.trans hx3)).mono ?_
  rintro e w4 ⟨v', rfl, hrow, hx4⟩
  obtain ⟨om, capm, rfl, -⟩ := hrow.slice
  (try rw [hp])
  go_wp2_with fail
  go_ret
  exact ⟨by simp, ((hx.trans hx2).trans hx3).trans hx4⟩
end Go.Proofs.Ytboeldlilkeihaa
