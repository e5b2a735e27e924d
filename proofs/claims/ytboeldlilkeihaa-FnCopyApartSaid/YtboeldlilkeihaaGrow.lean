/- The contracts of grow and grown. -/
import Derived.Test.YtboeldlilkeihaaStep
import Derived.Test.YtboeldlilkeihaaLst
set_option linter.unusedSimpArgs false
set_option linter.unusedVariables false
/- The contracts of 'grow' and 'grown'. -/
namespace Go.Proofs.Ytboeldlilkeihaa
open Go.RowKit Go.Bx
theorem take_snoc' {α : Type} {L : List α} {k : Nat} {x : α} (h : L[k]? = some x) : L.take (k + 1) = L.take k ++ [x] := by rw [List.take_add_one, h]; rfl
set_option maxRecDepth 100000 in
set_option maxHeartbeats 6400000 in
theorem grow_c (c : Int) (Z : Nat → Prop) (tr : Nat) (cw : Value) (T : Tre) (w : World) (s : Nat → Prop) (hM : TreeM c Z w tr T cw s) (m : Nat) (hF : Fine T m) (L : List Stp) (hL : ∀ st ∈ L, st.ok) (hm : m + L.length ≤ 900000)
    (b0 g cap : Nat) (hr : w.Row b0 37 11 stepV (.slice (some ⟨g, 0, none⟩) L.length cap) L) (hg : ¬ s g) (hgt : g ≠ tr) :
    Calls Try.prog 47 #[.pointer (some ⟨tr, 0, none⟩), .slice (some ⟨g, 0, none⟩) L.length cap] w fun e w' => StepPost c Z w tr s cw (Bx.runT T L) e w' := by
  obtain ⟨n, hn⟩ : ∃ n, L.length = n := ⟨_, rfl⟩
  rw [hn] at hr hm ⊢
  have htl := hM.lt
  have hsl : ∀ b, s b → b < w.heap.size := fun b hb => hM.slt hb
  have HN := Lib.hid hn
  have HR := Lib.hid hr
  have HM := Lib.hid hM
  have HSL := Lib.hid hsl
  clear hn hr hM hsl
  go_enter Try.func47, Try.ntmps47
  go_wp2_with fail
  go_loopw [8] (fun i wr => ∃ kk : Nat, kk ≤ n ∧ i = .int .i64 kk ∧ ∃ (W : World) (d : Nat) (s' : Nat → Prop), wr = W.drewN d ∧ TreeM c Z W tr (Bx.runT T (L.take kk)) cw s' ∧ Grew w s s' ∧ Chg (fun b => b = tr ∨ s b) w W) (fun i _ => n - (intOf i).toNat)
  case atStart => exact ⟨0, by omega, rfl, w, 0, s, rfl, HM.out, Grew.refl _ _, Chg.refl _ _⟩
  case round =>
    obtain ⟨kk, hk, rfl, W, d, s', rfl, hM', hG', hC'⟩ := hrel
    by_cases hlt : kk < n
    case neg =>
      have hkn : kk = n := by omega
      have e1 : L.take kk = L := List.take_of_length_le (by have := HN.out; omega)
      rw [e1] at hM'
      have HM' := Lib.hid hM'
      have HG' := Lib.hid hG'
      have HC' := Lib.hid hC'
      clear hM' hG' hC'
      subst hkn
      go_wp2_with fail
      go_end0
      exact ⟨rfl, s', HM'.out.ex ((Mix.Ex.refl _).drewN _), HG'.out, HC'.out.drewN _⟩
    obtain ⟨st, hst⟩ : ∃ st, L[kk]? = some st := ⟨L[kk]'(by have := HN.out; omega), List.getElem?_eq_getElem _⟩
    have hsm := hL st (List.mem_of_getElem? hst)
    have hrow := HR.out.of_block (w' := W) (fun k hk => by
      simp only [Value.ownBlock, Option.some.injEq] at hk
      subst hk
      exact hC'.block g (HR.out.lt _ rfl).2 (by rintro (h | h); exact hgt h; exact hg h))
    have c0 : W.cell? ⟨g, kk * 11, none⟩ = some (.int .i64 st.k) := hrow.cell (j := 0) hst rfl
    have c1 := hrow.cell (j := 1) hst rfl
    have c2 := hrow.cell (j := 2) hst rfl
    have c3 := hrow.cell (j := 3) hst rfl
    have c4 := hrow.cell (j := 4) hst rfl
    have c5 := hrow.cell (j := 5) hst rfl
    have c6 := hrow.cell (j := 6) hst rfl
    have c7 := hrow.cell (j := 7) hst rfl
    have c8 := hrow.cell (j := 8) hst rfl
    have c9 := hrow.cell (j := 9) hst rfl
    have c10 := hrow.cell (j := 10) hst rfl
    have hFk : Fine (Bx.runT T (L.take kk)) (m + kk) := by
      have := hF.run (L := L.take kk) (fun a ha => hL a (List.mem_of_mem_take ha))
      rw [List.length_take, Nat.min_eq_left (by have := HN.out; omega)] at this
      exact this
    have hend : ∀ (d1 : Nat) (w1 w2 : World), Mix.Ex W w1 → StepPost c Z w1 tr s' cw (Bx.stepT st (Bx.runT T (L.take kk))) (.returned (.tuple #[])) w2 → ∃ (W : World) (d : Nat) (s' : Nat → Prop), w2.drewN d1 = W.drewN d ∧ TreeM c Z W tr (Bx.runT T (L.take (kk + 1))) cw s' ∧ Grew w s s' ∧ Chg (fun b => b = tr ∨ s b) w W := by
      rintro d1 w1 w2 hx hP
      obtain ⟨_, s2, h2, h3, h4⟩ := StepPost.of_ex hx hP
      have hz := hC'.size
      refine ⟨w2, d1, s2, rfl, ?_, fun b hb => ?_, hC'.trans' h4 fun b hb h => ?_⟩
      · rw [take_snoc' hst, Bx.runT_snoc]; exact h2
      · rcases h3 b hb with h | h
        · exact hG' b h
        · exact .inr (by omega)
      · rcases h with h | h
        · exact .inl h
        · rcases hG' b h with h | h
          · exact .inr h
          · omega
    have HEND := Lib.hid hend
    have HM' := Lib.hid hM'
    have HFK := Lib.hid hFk
    have HSM := Lib.hid hsm
    clear hend hM' hG' hC' hrow hFk hsm hst
    go_upto_region 3 with (fail)
    clear c0 c1 c2 c3 c4 c5 c6 c7 c8 c9 c10
    obtain ⟨B, hB⟩ : ∃ B, W.heap.size = B := ⟨_, rfl⟩
    have hx := (Mix.Ex.refl W).alloc (.cells #[.int .i64 st.k, .int .i64 st.o.1.x0, .int .i64 st.o.1.y0, .int .i64 st.o.1.x1, .int .i64 st.o.1.y1, .int .i64 st.o.2, .int .i64 st.n.1.x0, .int .i64 st.n.1.y0, .int .i64 st.n.1.x1, .int .i64 st.n.1.y1, .int .i64 st.n.2] 37)
    have hnew := heap_alloc_new W (.cells #[.int .i64 st.k, .int .i64 st.o.1.x0, .int .i64 st.o.1.y0, .int .i64 st.o.1.x1, .int .i64 st.o.1.y1, .int .i64 st.o.2, .int .i64 st.n.1.x0, .int .i64 st.n.1.y0, .int .i64 st.n.1.x1, .int .i64 st.n.1.y1, .int .i64 st.n.2] 37)
    rw [hB] at hnew ⊢
    generalize (W.alloc (.cells #[.int .i64 st.k, .int .i64 st.o.1.x0, .int .i64 st.o.1.y0, .int .i64 st.o.1.x1, .int .i64 st.o.1.y1, .int .i64 st.o.2, .int .i64 st.n.1.x0, .int .i64 st.n.1.y0, .int .i64 st.n.1.x1, .int .i64 st.n.1.y1, .int .i64 st.n.2] 37)) = w1 at hx hnew ⊢
    have c0 := cell_of_cells hnew 0
    have c1 := cell_of_cells hnew 1
    have c2 := cell_of_cells hnew 2
    have c3 := cell_of_cells hnew 3
    have c4 := cell_of_cells hnew 4
    have c5 := cell_of_cells hnew 5
    have c6 := cell_of_cells hnew 6
    have c7 := cell_of_cells hnew 7
    have c8 := cell_of_cells hnew 8
    have c9 := cell_of_cells hnew 9
    have c10 := cell_of_cells hnew 10
    simp only [List.getElem?_toArray, List.getElem?_cons_zero, List.getElem?_cons_succ] at c0 c1 c2 c3 c4 c5 c6 c7 c8 c9 c10
    have HX := Lib.hid (hx.drewN d)
    clear hnew hx
    have hx1 := HX.out
    have hM1 := HM'.out.ex hx1
    by_cases k0 : st.k = 0
    · have hS := step_insert c Z tr cw st.o.1 st.o.2 HSM.out.1 _ (w1.drewN d) s' hM1 (HFK.out.mono (by omega))
      have e0 : (st.k == 0) = true := by simp [k0]
      have HK := Lib.hid k0
      clear hx1 hM1 k0
      go_wp2_with fail
      refine hS.mono ?_
      rintro e w2 hP
      obtain rfl := hP.1
      have HP := Lib.hid hP
      clear hP hS c0 c1 c2 c3 c4 c5 c6 c7 c8 c9 c10
      go_wp2_with fail
      go_roundw
      case measure => simp [intOf]; omega
      case rel =>
        have hP := HP.out
        have e : Bx.stepT st (Bx.runT T (L.take kk)) = Bx.putT st.o.1 st.o.2 (Bx.runT T (L.take kk)) := by unfold Bx.stepT; rw [if_pos HK.out]
        rw [← e] at hP
        exact ⟨kk + 1, by omega, by go_num, HEND.out 0 _ _ HX.out hP⟩
    · have e0 : (st.k == 0) = false := by simp [k0]
      have HK0 := Lib.hid k0
      clear k0
      by_cases k1 : st.k = 1
      · have hS := step_delete c Z tr cw st.o.1 st.o.2 _ (w1.drewN d) s' hM1 (HFK.out.mono (by omega))
        have e1 : (st.k == 1) = true := by simp [k1]
        have HK := Lib.hid k1
        clear hx1 hM1 k1
        go_wp2_with fail
        refine hS.mono ?_
        rintro e w2 hP
        obtain rfl := hP.1
        have HP := Lib.hid hP
        clear hP hS c0 c1 c2 c3 c4 c5 c6 c7 c8 c9 c10
        go_wp2_with fail
        go_roundw
        case measure => simp [intOf]; omega
        case rel =>
          have hP := HP.out
          have e : Bx.stepT st (Bx.runT T (L.take kk)) = (deleteT st.o.1 st.o.2 (Bx.runT T (L.take kk))).2 := by unfold Bx.stepT; rw [if_neg HK0.out, if_pos HK.out]
          rw [← e] at hP
          exact ⟨kk + 1, by omega, by go_num, HEND.out 0 _ _ HX.out hP⟩
      · have e1 : (st.k == 1) = false := by simp [k1]
        have HK1 := Lib.hid k1
        clear k1
        by_cases k2 : st.k = 2
        · have hS := step_replace c Z tr cw st.o.1 st.n.1 st.o.2 st.n.2 HSM.out.2 _ (w1.drewN d) s' hM1 (HFK.out.mono (by omega))
          have e2 : (st.k == 2) = true := by simp [k2]
          have HK := Lib.hid k2
          clear hx1 hM1 k2
          go_wp2_with fail
          refine hS.mono ?_
          rintro e w2 hP
          obtain rfl := hP.1
          have HP := Lib.hid hP
          clear hP hS c0 c1 c2 c3 c4 c5 c6 c7 c8 c9 c10
          go_wp2_with fail
          go_roundw
          case measure => simp [intOf]; omega
          case rel =>
            have hP := HP.out
            have e : Bx.stepT st (Bx.runT T (L.take kk)) = (if (deleteT st.o.1 st.o.2 (Bx.runT T (L.take kk))).1 then Bx.putT st.n.1 st.n.2 (deleteT st.o.1 st.o.2 (Bx.runT T (L.take kk))).2 else (deleteT st.o.1 st.o.2 (Bx.runT T (L.take kk))).2) := by unfold Bx.stepT; rw [if_neg HK0.out, if_neg HK1.out, if_pos HK.out]
            rw [← e] at hP
            exact ⟨kk + 1, by omega, by go_num, HEND.out 0 _ _ HX.out hP⟩
        · have e2 : (st.k == 2) = false := by simp [k2]
          have HK2 := Lib.hid k2
          clear k2
          by_cases k3 : st.k = 3
          · have hS := step_clear c Z tr cw _ (w1.drewN d) s' hM1
            have e3 : (st.k == 3) = true := by simp [k3]
            have HK := Lib.hid k3
            clear hx1 hM1 k3
            go_wp2_with fail
            refine hS.mono ?_
            rintro e w2 hP
            obtain rfl := hP.1
            have HP := Lib.hid hP
            clear hP hS c0 c1 c2 c3 c4 c5 c6 c7 c8 c9 c10
            go_wp2_with fail
            go_roundw
            case measure => simp [intOf]; omega
            case rel =>
              have hP := HP.out
              have e : Bx.stepT st (Bx.runT T (L.take kk)) = tre0 := by unfold Bx.stepT; rw [if_neg HK0.out, if_neg HK1.out, if_neg HK2.out, if_pos HK.out]
              rw [← e] at hP
              exact ⟨kk + 1, by omega, by go_num, HEND.out 0 _ _ HX.out hP⟩
          · have e3 : (st.k == 3) = false := by simp [k3]
            have HK := Lib.hid k3
            have HM1 := Lib.hid hM1
            clear hx1 hM1 k3
            go_wp2_with fail
            clear c0 c1 c2 c3 c4 c5 c6 c7 c8 c9 c10
            go_roundw
            case measure => simp [intOf]; omega
            case rel =>
              have hP : StepPost c Z (w1.drewN d) tr s' cw (Bx.stepT st (Bx.runT T (L.take kk))) (.returned (.tuple #[])) (w1.drewN d) := by
                unfold Bx.stepT
                rw [if_neg HK0.out, if_neg HK1.out, if_neg HK2.out, if_neg HK.out]
                exact ⟨rfl, s', HM1.out, Grew.refl _ _, Chg.refl _ _⟩
              exact ⟨kk + 1, by omega, by go_num, HEND.out 0 _ _ HX.out hP⟩
end Go.Proofs.Ytboeldlilkeihaa
/- The contract of 'grown': a new tree behind steps. -/
namespace Go.Proofs.Ytboeldlilkeihaa
open Go.RowKit Go.Bx
/-- A new tree lies there; nothing of what was there has changed. -/
def GrownPost (w : World) (T : Tre) (e : Ending) (w' : World) : Prop :=
  ∃ (tr : Nat) (s : Nat → Prop), e = .returned (.pointer (some ⟨tr, 0, none⟩)) ∧ TreeM 0 (fun _ => False) w' tr T (.pointer none) s ∧ w.heap.size ≤ tr ∧ (∀ b, s b → w.heap.size ≤ b) ∧ Mix.Ex w w'
/-- The empty tree's block. -/
theorem tree0 {w : World} {tr : Nat} (h : w.heap[tr]? = some (.cells (trCells 0 0 R0 (.pointer none) (.pointer none)) 95 (0, 0))) : TreeM 0 (fun _ => False) w tr tre0 (.pointer none) (fun _ => False) :=
  ⟨⟨_, h, rfl, fun _ h => h⟩, fun h => h, fun h => h, fun _ h => h.elim, fun _ h => h.elim⟩
set_option maxRecDepth 100000 in
theorem grown_c (w : World) (L : List Stp) (hL : ∀ st ∈ L, st.ok) (hm : L.length ≤ 900000) (b0 g cap : Nat) (hr : w.Row b0 37 11 stepV (.slice (some ⟨g, 0, none⟩) L.length cap) L) :
    Calls Try.prog 36 #[.slice (some ⟨g, 0, none⟩) L.length cap] w fun e w' => GrownPost w (Bx.runT tre0 L) e w' := by
  have hg := (hr.lt _ rfl).2
  obtain ⟨n, hn⟩ : ∃ n, L.length = n := ⟨_, rfl⟩
  rw [hn]
  have HN := Lib.hid hn
  have HR := Lib.hid hr
  clear hn hr
  go_enter Try.func36, Try.ntmps36
  go_upto_region 2 with (fail)
  have hx := (Mix.Ex.refl w).alloc (.cells #[.int .u64 0, .int .i64 0, .int .i64 0, .int .i64 0, .int .i64 0, .int .i64 0, .pointer none, .int .i64 0, .pointer none] 95)
  have hnew := heap_alloc_new w (.cells #[.int .u64 0, .int .i64 0, .int .i64 0, .int .i64 0, .int .i64 0, .int .i64 0, .pointer none, .int .i64 0, .pointer none] 95)
  generalize (w.alloc (.cells #[.int .u64 0, .int .i64 0, .int .i64 0, .int .i64 0, .int .i64 0, .int .i64 0, .pointer none, .int .i64 0, .pointer none] 95)) = w1 at hx hnew ⊢
  have hM := tree0 hnew
  have hr1 := HR.out.of_block (w' := w1) (fun k hk => by
    simp only [Value.ownBlock, Option.some.injEq] at hk
    subst hk
    exact hx.below.block g hg)
  have hG := grow_c 0 (fun _ => False) w.heap.size (.pointer none) tre0 w1 (fun _ => False) hM 0 fine0 L hL (by omega) b0 g cap hr1 (fun h => h) (fun h => by simp only at hg; omega)
  rw [HN.out] at hG
  clear hM hr1 hnew
  have HX := Lib.hid hx
  clear hx
  go_wp2_with fail
  refine hG.mono ?_
  rintro e w2 ⟨rfl, s', h2, h3, h4⟩
  have hlt : ∀ b, s' b → w.heap.size ≤ b := fun b hb => by
    have := HX.out.below.size
    rcases h3 b hb with h | h
    · exact h.elim
    · omega
  have hC : Chg (fun _ => False) w w2 := (Chg.ex HX.out).trans' h4 (fun i hi h => by rcases h with h | h; omega; exact h)
  have HP : Hid (GrownPost w (Bx.runT tre0 L) (.returned (.pointer (some ⟨w.heap.size, 0, none⟩))) w2) := Lib.hid ⟨_, s', rfl, h2, Nat.le_refl _, hlt, hC.toEx (fun _ _ h => h)⟩
  clear h2 h3 h4 hlt hC hG
  go_wp2_with fail
  go_ret
  exact HP.out
end Go.Proofs.Ytboeldlilkeihaa
