/- The contracts of nodeDelete and delete. -/
import Derived.Test.YtboeldlilkeihaaDelL
import Derived.Test.YtboeldlilkeihaaDelB
import Derived.Test.YtboeldlilkeihaaInsT
import Derived.Deep.LoopGhost
import Derived.Deep.DeepCutAuto
set_option linter.unusedSimpArgs false
set_option linter.unusedVariables false
/- The contract of 'nodeDelete'; 'deepCount' and 'nodeReinsert' at a node without entries. -/
namespace Go.Proofs.Ytboeldlilkeihaa
open Go.RowKit Go.Bx
theorem del_c (c : Int) (Z : Nat → Prop) (tr b o : Nat) (sR : R) (x : Int) (rI : Nat) : ∀ h, h ≤ 1000000 → DelC c Z tr b o sR x rI h (del sR x h)
  | 0, _ => del_zero c Z tr b o sR x rI
  | h + 1, hh => delBranch c Z tr b o sR x rI h (by omega) (del_c c Z tr b o sR x rI h (by omega))
set_option maxRecDepth 100000 in
set_option maxHeartbeats 1600000 in
theorem deepCount_c (w : World) (p : Nat) (N : Nd) (hN : NodeAt w p N) (hn : N.cnt = 0) : Calls Try.prog 98 #[.pointer (some ⟨p, 0, none⟩)] w fun e w' => e = .returned (.int .i64 0) ∧ ∃ d, w' = w.drewN d := by
  obtain ⟨ic, b, n, q, rc⟩ := N
  dsimp only at hn
  subst hn
  have hc := hN.cell2
  dsimp only at hc
  go_enter Try.func98, Try.ntmps98
  go_wp2_with fail
  refine (leaf_c _ _ _ hN).mono ?_
  rintro e w1 ⟨rfl, hww⟩
  subst hww
  dsimp only
  cases b with
  | true =>
    go_wp2_with fail
    go_ret
    exact ⟨rfl, 0, rfl⟩
  | false =>
    have HI := fun d => children_c (w1.drewN d) p _ (hN.drewN d) rfl
    dsimp only at HI
    go_wp2_with fail
    (refine Mix.wp_region_dr (by kernel_rfl) (by kernel_rfl) ?_; (repeat (go_big_quiet_step ((go_at_call 63; exact Mix.calls_q (HI _) ⟨_, rfl⟩)))); refine wpQuiet_nil ?_; intro nq)
    go_wp2_with fail
    refine wp_loop_rounds 1 ?_
    rw [rounds_succ]
    go_wp2_with fail
    go_ret
    exact ⟨rfl, _, rfl⟩
set_option maxRecDepth 100000 in
set_option maxHeartbeats 1600000 in
theorem nodeReinsert_c (w : World) (tr p : Nat) (N : Nd) (hN : NodeAt w p N) (hn : N.cnt = 0) : Calls Try.prog 99 #[.pointer (some ⟨tr, 0, none⟩), .pointer (some ⟨p, 0, none⟩)] w fun e w' => e = .returned (.tuple #[]) ∧ ∃ d, w' = w.drewN d := by
  obtain ⟨ic, b, n, q, rc⟩ := N
  dsimp only at hn
  subst hn
  have hc := hN.cell2
  dsimp only at hc
  go_enter Try.func99, Try.ntmps99
  go_wp2_with fail
  refine (leaf_c _ _ _ hN).mono ?_
  rintro e w1 ⟨rfl, hww⟩
  subst hww
  dsimp only
  cases b with
  | true =>
    have HI := fun d => items_c (w1.drewN d) p _ (hN.drewN d) rfl
    dsimp only at HI
    go_wp2_with fail
    (refine Mix.wp_region_dr (by kernel_rfl) (by kernel_rfl) ?_; (repeat (go_big_quiet_step (fail))); refine wpQuiet_nil ?_; intro nq)
    go_wp2_with fail
    (refine Mix.wp_region_dr (by kernel_rfl) (by kernel_rfl) ?_; (repeat (go_big_quiet_step ((go_at_call 76; exact Mix.calls_q (HI _) ⟨_, rfl⟩)))); refine wpQuiet_nil ?_; intro nq)
    go_wp2_with fail
    refine wp_loop_rounds 1 ?_
    rw [rounds_succ]
    go_wp2_with fail
    go_end0
    exact ⟨rfl, _, rfl⟩
  | false =>
    have HI := fun d => children_c (w1.drewN d) p _ (hN.drewN d) rfl
    dsimp only at HI
    go_wp2_with fail
    (refine Mix.wp_region_dr (by kernel_rfl) (by kernel_rfl) ?_; (repeat (go_big_quiet_step ((go_at_call 63; exact Mix.calls_q (HI _) ⟨_, rfl⟩)))); refine wpQuiet_nil ?_; intro nq)
    go_wp2_with fail
    refine wp_loop_rounds 1 ?_
    rw [rounds_succ]
    go_wp2_with fail
    go_end0
    exact ⟨rfl, _, rfl⟩
end Go.Proofs.Ytboeldlilkeihaa
/- The contract of 'delete'. -/
namespace Go.Proofs.Ytboeldlilkeihaa
open Go.RowKit Go.Bx
def hgtLe (T : Tre) (m : Nat) : Prop := match T.root with
  | none => True
  | some q => q.1 ≤ m
/-- What 'delete' leaves. -/
def DelTPost (c : Int) (Z : Nat → Prop) (w : World) (tr : Nat) (s : Nat → Prop) (cw : Value) (y : Bool × Tre) (e : Ending) (w' : World) : Prop :=
  e = .returned (.bool y.1) ∧ ∃ s' : Nat → Prop, TreeM c Z w' tr y.2 cw s' ∧ Grew w s s' ∧ Chg (fun b => b = tr ∨ s b) w w'
/-- The root chased down. -/
def CollAt (c : Int) (Z : Nat → Prop) (w6 : World) (tr : Nat) (cnt : Int) (r : R) (cw : Value) (s3 : Nat → Prop) (h : Nat) (t : Nde (El h)) (k : Nat) (wr : World) : Prop :=
  ∃ (hh : Nat) (tt : Nde (El hh)) (rt : Value) (sx : Nat → Prop) (W : World) (d : Nat), k = hh ∧ wr = W.drewN d ∧ TreeAt W tr c cnt r rt cw ∧ ElAt c Z W (hh + 1) rt tt sx ∧ (∀ b, sx b → s3 b) ∧ coll h t = coll hh tt ∧ WfN hh tt ∧ Chg (fun b => b = tr) w6 W
set_option maxRecDepth 100000 in
set_option maxHeartbeats 12800000 in
theorem delete_c (c : Int) (Z : Nat → Prop) (tr : Nat) (cw : Value) (sR : R) (x : Int) (T : Tre) (w : World) (s : Nat → Prop) (hM : TreeM c Z w tr T cw s) (hT : TreOk T) (hh : hgtLe T 1000000) (c1 : T.cnt ≤ 1000000000) :
    Calls Try.prog 86 #[.pointer (some ⟨tr, 0, none⟩), .agg #[.int .i64 sR.x0, .int .i64 sR.y0], .agg #[.int .i64 sR.x1, .int .i64 sR.y1], .int .i64 x] w fun e w' => DelTPost c Z w tr s cw (deleteT sR x T) e w' := by
  obtain ⟨x0, y0, x1, y1⟩ := sR
  have hcnt := hT.cnt
  obtain ⟨cnt, r0, root⟩ := T
  dsimp only at c1 hcnt ⊢
  have HM := Lib.hid hM
  obtain ⟨⟨rt, hTA, hRt⟩, hps, hpZ, hsZ, hzlt⟩ := hM
  dsimp only at hTA hRt
  have hlt := hTA.lt
  have c0 : 0 ≤ cnt := by rw [hcnt]; omega
  have HT := Lib.hid hT
  have HCN := Lib.hid hcnt
  clear hT hcnt
  cases root with
  | none =>
    obtain ⟨rfl, hs0⟩ := hRt
    go_enter Try.func86, Try.ntmps86
    go_upto_region 2 with (fail)
    obtain ⟨w1, b0, b1, b2, e1, e2, e3, e4, hx1, hsz, hA3⟩ := arg3 w x0 y0 x1 y1
    rw [e1, e4, e3, e2]
    have k6 := (hTA.ex hx1).cell6
    have HX := Lib.hid hx1
    clear e1 e2 e3 e4 hsz hx1 hA3 hTA
    go_wp2_with fail
    go_ret
    refine ⟨rfl, s, HM.out.frame (S := fun _ => False) (Chg.ex HX.out) (fun _ h => h.elim) (fun _ h => h.elim) (fun h => h), Grew.refl _ _, Chg.ex HX.out⟩
  | some qq =>
    obtain ⟨h, t⟩ := qq
    have hh : h ≤ 1000000 := hh
    obtain ⟨pp, qq, ic0, X0, hv, _⟩ := id hRt
    subst hv
    go_enter Try.func86, Try.ntmps86
    go_upto_region 2 with (fail)
    obtain ⟨w1, b0, b1, b2, e1, e2, e3, e4, hx1, hsz, hA3⟩ := arg3 w x0 y0 x1 y1
    rw [e1, e4, e3, e2]
    have hTA1 := hTA.ex hx1
    have k6 := hTA1.cell6
    have hCT := contains_c w1 tr 2 b2 0 r0 ⟨x0, y0, x1, y1⟩ hTA1.rect hA3.hr
    have HX := Lib.hid hx1
    have HE4 := Lib.hid e4
    have HSZ := Lib.hid hsz
    have HTA1 := Lib.hid hTA1
    have HA3 := Lib.hid hA3.hr
    have HRT := Lib.hid hRt
    clear e1 e2 e3 e4 hsz hx1 hA3 hTA hTA1 hRt
    cases hcon : r0.contains ⟨x0, y0, x1, y1⟩ with
    | false =>
      rw [hcon] at hCT
      have HCON := Lib.hid hcon
      clear hcon
      go_wp2_with fail
      refine hCT.mono ?_
      rintro e w2 ⟨rfl, d2, rfl⟩
      clear hCT
      go_wp2_with fail
      go_ret
      have e1 : deleteT ⟨x0, y0, x1, y1⟩ x ⟨cnt, r0, some ⟨h, t⟩⟩ = (false, ⟨cnt, r0, some ⟨h, t⟩⟩) := by
        unfold deleteT; dsimp only; rw [if_neg (by rw [HCON.out]; simp)]
      rw [e1]
      have hx := HX.out.drewN d2
      refine ⟨rfl, s, HM.out.frame (S := fun _ => False) (Chg.ex hx) (fun _ h => h.elim) (fun _ h => h.elim) (fun h => h), Grew.refl _ _, Chg.ex hx⟩
    | true =>
    rw [hcon] at hCT
    have HCON := Lib.hid hcon
    clear hcon
    go_wp2_with fail
    refine hCT.mono ?_
    rintro e w2 ⟨rfl, d2, rfl⟩
    clear hCT
    go_upto_region 5 with (fail)
    obtain ⟨rI, hrI⟩ : ∃ rI, w1.heap.size = rI := ⟨_, rfl⟩
    have hnew := heap_alloc_new w1 (.cells #[.slice none 0 0] 105)
    rw [hrI] at hnew ⊢
    have hx2 := (Mix.Ex.refl w1).alloc (.cells #[.slice none 0 0] 105)
    generalize (w1.alloc (.cells #[.slice none 0 0] 105)) = w2 at hnew hx2 ⊢
    have hnil2 : ReNil w2 rI := hnew
    have hx02 := HX.out.trans hx2
    have hrt2 : ElAt c Z w2 (h + 1) (.pointer (some ⟨pp, 0, none⟩)) t s := (HRT.out : ElAt c Z w (h + 1) _ t s).frame (S := fun _ => False) (fun _ h => h.elim) (Chg.ex hx02) (fun _ h => h.elim)
    have hTA2 := HTA1.out.ex hx2
    have hb2 := HA3.out.of_ex hx2
    have hCOW := fun m => cow_c c Z (w2.drewN m) tr tr 6 h (.pointer (some ⟨pp, 0, none⟩)) t s hTA2.cell0 hTA2.cell6 (hTA2.frz 6) (hrt2.drewN m)
    have hwf : ∀ b, s b → b < w.heap.size := fun b hb => HRT.out.lt hb
    have HST := Lib.hid (fun m e w' hP => stage_root (m := m) (h := h) (t := t) (e := e) (w' := w') hTA2 (fun b hb => hrt2.lt hb) hps hpZ hP)
    have HWF := Lib.hid hwf
    have HNIL2 := Lib.hid hnil2
    have HB2 := Lib.hid hb2
    have HX02 := Lib.hid hx02
    have HRI := Lib.hid hrI
    clear hnew hx2 hnil2 hx02 hrt2 hTA2 hb2 hwf hrI k6
    go_wp2_with fail
    refine (hCOW _).mono ?_
    rintro e w3 hP
    obtain ⟨rfl, W, p, q, ic, X, s2, dW, rfl, hO, hTA3, hG2, hC2⟩ := HST.out _ _ _ hP
    clear hP hCOW HST
    have z1 := HSZ.out
    have z2 := HE4.out
    have z3 := HRI.out
    have z4 := HNIL2.out.lt
    have z5 := hC2.size
    have gs2 : ∀ b, s2 b → s b ∨ w2.heap.size ≤ b := hG2
    have nt2 : ¬ s2 tr := fun h => by rcases gs2 tr h with h | h; exact hps h; omega
    have nb2 : ¬ s2 b2 := fun h => by rcases gs2 b2 h with h | h; have := HWF.out _ h; omega; omega
    have nr2 : ¬ s2 rI := fun h => by rcases gs2 rI h with h | h; have := HWF.out _ h; omega; omega
    have sZ2 : ∀ b, s2 b → ¬ Z b := fun b hb hz => by rcases gs2 b hb with h | h; exact hsZ b h hz; have := hzlt b hz; omega
    have hTok : RootOk h r0 t := HT.out.1
    have ctx : DelCtx c Z W s2 tr tr 2 r0 b2 0 ⟨x0, y0, x1, y1⟩ rI :=
      ⟨⟨hTA3.cell0, hTA3.cell7, nt2, hTA3.rect, nt2, hC2.rect HB2.out (by omega), nb2, sZ2, fun k hk => by have := hzlt k hk; omega⟩, ⟨hTA3.frz _, hTA3.frz _, hTA3.frz _, hTA3.frz _⟩, hpZ, by omega, HNIL2.out.chg hC2 (by omega), nr2, by omega, by omega, by omega, fun hz => by have := hzlt _ hz; omega⟩
    have IH := fun m => del_c c Z tr b2 0 ⟨x0, y0, x1, y1⟩ x rI h hh (W.drewN m) p q ic X s2 tr 2 r0 t (hO.drewN m) (ctx.drewN m) hTok.2.2
    have hyok := del_ok ⟨x0, y0, x1, y1⟩ x h r0 t hTok.2.1 hTok.2.2
    obtain ⟨y, hyy⟩ : ∃ y, del ⟨x0, y0, x1, y1⟩ x h r0 t = y := ⟨_, rfl⟩
    rw [hyy] at hyok IH
    have k6 := hTA3.cell6
    have HYY := Lib.hid hyy
    have HYOK := Lib.hid hyok
    have HTA3 := Lib.hid hTA3
    have HC2 := Lib.hid hC2
    clear hO hTA3 hG2 hC2 ctx hTok hyok hyy z1 z2 z3 z4 z5
    go_wp2_with fail
    (refine Mix.wp_region_drw 9 [5] (by kernel_rfl) (by kernel_rfl) ?_; simp only [List.take_succ_cons, List.take_zero, List.drop_succ_cons, List.drop_zero]; (repeat (go_big_quiet_step (fail))); refine wpQuiet_nil ?_)
    (refine Mix.wpTl_dr (fun n K hK => ?_); go_simp)
    refine (IH _).mono ?_
    rintro e w4 ⟨rfl, ic3, X3, s3, w5, d5, rfl, hO3, hg3, hc3, hnil3, hre3⟩
    refine ⟨_, rfl, _, Mix.Dr.refl _, hK _ _ trivial ?_⟩
    (clear hK K; simp only [Act.put, List.setIfInBounds_toArray, List.set_cons_zero, List.set_cons_succ, List.take_succ_cons, List.take_zero, List.drop_succ_cons, List.drop_zero])
    (repeat (go_big_quiet_step (fail)))
    (refine wpQuiet_nil ?_; intro nq)
    obtain ⟨rm, sh, ri, t'⟩ := y
    dsimp only at hO3 hnil3 hre3 ⊢
    clear IH k6
    have z1 := HSZ.out
    have z2 := HE4.out
    have z3 := HRI.out
    have z4 := HNIL2.out.lt
    have z5 := HC2.out.size
    have z6 : w.heap.size ≤ w2.heap.size := HX02.out.below.size
    have hc3' : Chg (fun b => s2 b ∨ b = rI) W w5 := (Chg.ex ((Mix.Ex.refl W).drewN _)).trans hc3
    have z7 := hc3'.size
    have htr : tr ≠ rI := by omega
    have gs3 : ∀ b, s3 b → s b ∨ w2.heap.size ≤ b := fun b hb => by
      rcases hg3 b hb with h | h
      · exact gs2 b h
      · have h : W.heap.size ≤ b := h
        exact .inr (by omega)
    have nt3 : ¬ s3 tr := fun h => by rcases gs3 tr h with h | h; exact hps h; omega
    have sZ3 : ∀ b, s3 b → ¬ Z b := fun b hb hz => by rcases gs3 b hb with h | h; exact hsZ b h hz; have := hzlt b hz; omega
    have hT5 := (HTA3.out.chg hc3' (fun h => by rcases h with h | h; exact nt2 h; exact htr h)).setR ri
    have hcr : Chg (fun b => b = tr) w5 (setRect w5 tr 2 ri) := (Chg.refl (fun b => b = tr) w5).setR (.inl rfl) ri
    have hO5 := hO3.frame (S := fun b => b = tr) (fun b hb => hb ▸ hpZ) hcr (fun b hb => hb ▸ nt3)
    have hre5 : ReAt (setRect w5 tr 2 ri) W.heap.size rI s2 s3 h := ReAt.chg hre3 hcr (fun h => htr h.symm) (fun b hb => by show b < W.heap.size; omega) (fun b hb h => nt2 (hb ▸ h))
    have hG : Grew w s s3 := fun b hb => by rcases gs3 b hb with h | h; exact .inl h; exact .inr (by omega)
    have hCC : Chg (fun b => b = tr ∨ s b) w (setRect w5 tr 2 ri) := by
      have k1 : Chg (fun b => b = tr ∨ s b) w W := (Chg.ex HX02.out).trans (HC2.out.mono fun b hb => .inl hb)
      have k2 : Chg (fun b => b = tr ∨ s b) w w5 := k1.trans' hc3' (fun b hb h => by
        rcases h with h | h
        · rcases gs2 b h with h | h
          · exact .inr h
          · omega
        · omega)
      exact k2.trans (hcr.mono fun b hb => .inl hb)
    clear hO3 hg3 hc3 hnil3 hre3 hc3' hcr z1 z2 z3 z4 z5 z6 z7
    generalize (setRect w5 tr 2 ri) = w6 at hT5 hO5 hre5 hCC ⊢
    have HT5 := Lib.hid hT5
    have HO5 := Lib.hid hO5
    have HRE5 := Lib.hid hre5
    have HG := Lib.hid hG
    have HCC := Lib.hid hCC
    clear hO5 hre5 hG hCC
    cases rm with
    | false =>
      as_aux_lemma =>
      obtain ⟨hy, _⟩ := HYOK.out.no rfl
      simp only [Prod.mk.injEq, true_and] at hy
      obtain ⟨rfl, rfl, rfl⟩ := hy
      clear hT5
      go_wp2_with fail
      go_ret
      have e1 : deleteT ⟨x0, y0, x1, y1⟩ x ⟨cnt, ri, some ⟨h, t'⟩⟩ = (false, ⟨cnt, ri, some ⟨h, t'⟩⟩) := by
        unfold deleteT
        dsimp only
        rw [if_pos HCON.out, HYY.out, if_neg (by simp)]
      rw [e1]
      exact ⟨rfl, s3, ⟨⟨_, HT5.out.drewN _, HO5.out.toEl.drewN _⟩, nt3, hpZ, sZ3, fun k hk => by have := hzlt k hk; have := HCC.out.size; show k < w6.heap.size; omega⟩, HG.out, HCC.out.drewN _⟩
    | true =>
      as_aux_lemma =>
      have k1 := hT5.cell1
      have k1f := hT5.frz 1
      clear hT5
      obtain ⟨cn, hcn⟩ : ∃ cn, cnt - 1 = cn := ⟨_, rfl⟩
      have cn0 : 0 ≤ cn := by
        have h1 := HYOK.out.yes rfl
        obtain ⟨⟨e, _, _, he⟩, _⟩ := h1
        have h2 := he.length_eq
        have h3 := HCN.out
        simp only [itT] at h3
        simp only [List.length_cons] at h2
        omega
      have cn1 : cn ≤ 1000000000 := by omega
      go_upto_region 10 with (fail)
      have HCNT := Lib.hid hcn
      have ee : w6.setCell ⟨tr, 1, none⟩ (.int .i64 cn) = w6.putT tr c cn ri (.pointer (some ⟨p, 0, none⟩)) cw := by
        conv => lhs; rw [← HT5.out.self]
        exact World.setCell_putT1 _ _ _ _ _ _ _ _
      rw [ee]
      have hT7 : TreeAt (w6.putT tr c cn ri (.pointer (some ⟨p, 0, none⟩)) cw) tr c cn ri (.pointer (some ⟨p, 0, none⟩)) cw := TreeAt.put _ _ _ _ _ HT5.out.lt
      have hC7 := (Chg.refl (fun b => b = tr) w6).putT (p := tr) (c := c) (cnt := cn) (r := ri) (rt := .pointer (some ⟨p, 0, none⟩)) (cw := cw) (.inl rfl)
      have hO7 := HO5.out.frame (S := fun b => b = tr) (fun b hb => hb ▸ hpZ) hC7 (fun b hb => hb ▸ nt3)
      have z8 := HTA3.out.lt
      have hre7 : ReAt (w6.putT tr c cn ri (.pointer (some ⟨p, 0, none⟩)) cw) W.heap.size rI s2 s3 h := ReAt.chg HRE5.out hC7 (fun h => htr h.symm) (fun b hb => by show b < W.heap.size; omega) (fun b hb h => nt2 (hb ▸ h))
      have hCC7 := HCC.out.trans (hC7.mono fun b hb => .inl hb)
      clear ee k1 k1f hC7 HT5 HO5 HRE5 HCC hcn
      generalize (w6.putT tr c cn ri (.pointer (some ⟨p, 0, none⟩)) cw) = w7 at hT7 hO7 hre7 hCC7 ⊢
      obtain ⟨v, L, hLL, hvI, hRow, hLe, hvs⟩ := id hre7
      obtain ⟨ov, n, cap, rfl, hn, hov⟩ : ∃ ov n cap, v = .slice ov n cap ∧ L.length = n ∧ ∀ k, k < n → ∃ g, ov = some ⟨g, 0, none⟩ := by
        rcases hRow.form with ⟨h1, h2⟩ | ⟨g, cap, h1, h2⟩
        · exact ⟨none, 0, 0, h1, by rw [h2]; rfl, fun k hk => by omega⟩
        · exact ⟨some ⟨g, 0, none⟩, L.length, cap, h1, rfl, fun k hk => ⟨g, rfl⟩⟩
      have cI : w7.cell? ⟨rI, 0, none⟩ = some (.slice ov n cap) := cell_of_cells hvI 0
      have hn9 : n ≤ 1000000 := by omega
      have HROW := Lib.hid hRow
      have HLE := Lib.hid hLe
      have HLN := Lib.hid hn
      have HRE7 := Lib.hid hre7
      have HT7 := Lib.hid hT7
      have HO7 := Lib.hid hO7
      have HCC7 := Lib.hid hCC7
      have HOV := Lib.hid hov
      have hget : ∀ k, k < n → ∃ (g a : Nat) (N : Nd), ov = some ⟨g, 0, none⟩ ∧ w7.cell? ⟨g, k, none⟩ = some (.pointer (some ⟨a, 0, none⟩)) ∧ NodeAt w7 a N ∧ N.cnt = 0 := fun k hk => by
        obtain ⟨g, rfl⟩ := hov k hk
        have hkL : k < L.length := by omega
        have hk1 : L[k]? = some L[k] := List.getElem?_eq_getElem hkL
        obtain ⟨N, m1, m2, _⟩ := hLe _ (List.getElem_mem hkL)
        have := hRow.cell (i := k) (j := 0) hk1 rfl
        rw [Nat.mul_one, Nat.add_zero] at this
        exact ⟨g, _, N, rfl, this, m1, m2⟩
      have HGET := Lib.hid hget
      clear hvI hRow hLe hvs hn hre7 hT7 hO7 hCC7 hov hget
      go_upto_if 60 with (fail)
      go_cut [] (fun wx => ∃ d, wx = w7.drewN d)
      case first =>
        by_cases hn0 : n = 0
        · subst hn0
          go_wp2_with fail
          go_meet
          case rel => exact ⟨_, rfl⟩
        · have hnp : (0 : Int) < (n : Int) := by omega
          go_wp2_with fail
          go_loopw [63] (fun i wr => ∃ kk : Nat, kk ≤ n ∧ i = .int .i64 kk ∧ ∃ d, wr = w7.drewN d) (fun i _ => n - (intOf i).toNat)
          case atStart => exact ⟨0, by omega, rfl, _, rfl⟩
          case round =>
            obtain ⟨kk, hk, rfl, d, rfl⟩ := hrel
            by_cases hlt : kk < n
            case neg =>
              go_wp2_with fail
              go_meet
              case rel => exact ⟨_, rfl⟩
            obtain ⟨g, a, N, rfl, ca, hNa, hNc⟩ := HGET.out kk hlt
            have hDC := fun d => deepCount_c (w7.drewN d) a N (hNa.drewN d) hNc
            have k1 := HT7.out.cell1
            have k1f := HT7.out.frz 1
            have hself : w7.setCell ⟨tr, 1, none⟩ (.int .i64 cn) = w7 := World.setCell_self k1
            have HS := Lib.hid hself
            clear hself hNa hNc
            go_wp2_with fail
            (refine Mix.wp_region_drw 9 [0] (by kernel_rfl) (by kernel_rfl) ?_; simp only [List.take_succ_cons, List.take_zero, List.drop_succ_cons, List.drop_zero]; (repeat (go_big_quiet_step ((go_at_call 98; exact Mix.calls_qn (hDC _) (fun m => ⟨_, (by rw [World.drewN_drewN, Nat.add_assoc])⟩))))); refine wpQuiet_nil ?_)
            (refine Mix.wpTl_dr (fun n K hK => ?_); go_simp; refine ⟨_, ⟨_, rfl⟩, hK _ _ trivial ?_⟩; clear hK K; simp only [Act.put, List.take_succ_cons, List.take_zero, List.drop_succ_cons, List.drop_zero])
            (refine wpQuiet_nil ?_; intro nq)
            rw [HS.out]
            clear k1 k1f ca cI hDC
            go_wp2_with fail
            go_roundw
            case measure => simp [intOf]; omega
            case rel => exact ⟨kk + 1, by omega, by go_num, _, rfl⟩
      case rest =>
        obtain ⟨d7, rfl⟩ := hcut
        have hne : t'.n ≠ 0 ∨ cn = 0 := by
          by_cases e : cn = 0
          · exact .inr e
          · refine .inl fun hz => e ?_
            have h1 := HYOK.out.yes rfl
            obtain ⟨⟨e, _, _, he⟩, _⟩ := h1
            have h2 := he.length_eq
            have h3 := HCN.out
            have h4 := HCNT.out
            simp only [itT] at h3
            have h5 : itsN h t' = [] := by unfold itsN; rw [hz]; rfl
            rw [h5] at h2
            simp only [List.length_cons, List.length_nil] at h2
            omega
        have k1 := HT7.out.cell1
        have hTf := HT7.out.frz
        obtain ⟨bb, hbb⟩ : ∃ bb, (cn == 0) = bb := ⟨_, rfl⟩
        have HBB := Lib.hid hbb
        go_upto_if 81 with (fail)
        clear hbb
        go_cut [] (fun wx => ∃ W8 d, wx = W8.drewN d ∧ (∃ s' : Nat → Prop, TreeM c Z W8 tr (deleteT ⟨x0, y0, x1, y1⟩ x ⟨cnt, r0, some ⟨h, t⟩⟩).2 cw s' ∧ Grew w s s') ∧ Chg (fun b => b = tr) w7 W8)
        case first =>
          cases bb with
          | true =>
            have hz : cn = 0 := by simpa using HBB.out
            have hOp := HT7.out.opn
            obtain ⟨w8, hw8, hl8, -⟩ := hOp
            have hn9' := HCC7.out.size
            have e1 : (deleteT ⟨x0, y0, x1, y1⟩ x ⟨cnt, r0, some ⟨h, t⟩⟩).2 = ⟨0, R0, none⟩ := by
              unfold deleteT
              dsimp only
              rw [if_pos HCON.out, HYY.out, if_pos rfl, if_pos (by rw [HCNT.out]; exact hz)]
            have HE1 := Lib.hid e1
            have HZ := Lib.hid hz
            subst hw8
            clear hz e1
            go_wp2_with fail
            go_meet
            case rel =>
              rw [HE1.out]
              have hc := (Chg.refl (fun b => b = tr) (w8.putT tr c cn ri (.pointer (some ⟨p, 0, none⟩)) cw)).putT (p := tr) (c := c) (cnt := cn) (r := R0) (rt := .pointer none) (cw := cw) (.inl rfl)
              rw [World.putT_putT] at hc
              refine ⟨_, _, rfl, ⟨fun _ => False, ⟨⟨_, ?_, rfl, fun _ h => h⟩, fun h => h, hpZ, fun _ h => h.elim, fun k hk => by have h1 := hzlt k hk; have h2 := hn9'; rw [World.size_putT] at h2 ⊢; omega⟩, fun _ h => h.elim⟩, hc⟩
              rw [HZ.out]
              exact TreeAt.put _ _ _ _ _ hl8
          | false =>
            have hz : ¬ cn = 0 := by simpa using HBB.out
            have hnz : t'.n ≠ 0 := hne.resolve_right hz
            have e1 : (deleteT ⟨x0, y0, x1, y1⟩ x ⟨cnt, r0, some ⟨h, t⟩⟩).2 = ⟨cn, ri, some (coll h t')⟩ := by
              unfold deleteT
              dsimp only
              rw [if_pos HCON.out, HYY.out, if_pos rfl, if_neg (by rw [HCNT.out]; exact hz), HCNT.out]
            have HE1 := Lib.hid e1
            clear e1
            go_wp2_with fail
            go_loopg [] h (CollAt c Z w7 tr cn ri cw s3 h t')
            case atStart => exact ⟨h, t', _, s3, w7, _, rfl, rfl, HT7.out, HO7.out.toEl, fun _ h => h, rfl, HYOK.out.wf, Chg.refl _ _⟩
            case round =>
              obtain ⟨hh2, tt, rt2, sx, W2, d2, rfl, rfl, hTw, hEl, hsx, hco, hwf, hcw⟩ := hrel
              obtain ⟨p2, q2, ic2, X2, rfl, hn2, hE2, he2, ho2⟩ := id hEl
              have k6 := hTw.cell6
              have k6f := hTw.frz 6
              have hnd2 : NodeAt W2 p2 ⟨ic2, leafB gk, tt.n, q2, fun i => (X2 i).1⟩ := hn2.nd
              have c2 := hnd2.cell2
              dsimp only at c2
              have hLF := fun d => leaf_c (W2.drewN d) p2 _ (hnd2.drewN d)
              dsimp only at hLF
              have hend : coll h t' = ⟨gk, tt⟩ → ∃ W8 d, W2.drewN d2 = W8.drewN d ∧ (∃ s' : Nat → Prop, TreeM c Z W8 tr (deleteT ⟨x0, y0, x1, y1⟩ x ⟨cnt, r0, some ⟨h, t⟩⟩).2 cw s' ∧ Grew w s s') ∧ Chg (fun b => b = tr) w7 W8 := fun hc => by
                rw [HE1.out]
                refine ⟨W2, d2, rfl, ⟨sx, ⟨⟨_, hTw, ?_⟩, fun h => nt3 (hsx _ h), hpZ, fun b hb => sZ3 b (hsx b hb), fun k hk => ?_⟩, fun b hb => HG.out b (hsx b hb)⟩, hcw⟩
                · rw [hc]; exact hEl
                · have := hzlt k hk
                  have := HCC7.out.size
                  have := hcw.size
                  omega
              have HEND := Lib.hid hend
              have HTW := Lib.hid hTw
              have HN2 := Lib.hid hnd2
              have HLX := Lib.hid hn2.ls
              have HE2 := Lib.hid hE2
              have HEL := Lib.hid he2
              have HO2 := Lib.hid ho2
              have HCO := Lib.hid hco
              have HWF2 := Lib.hid hwf
              have HCW := Lib.hid hcw
              have HSX := Lib.hid hsx
              clear hend hTw hnd2 hn2 hE2 he2 ho2 hco hwf hcw hsx hEl
              cases gk with
              | zero =>
                have hlb : leafB 0 = true := rfl
                rw [hlb] at hLF
                go_wp2_with fail
                refine (hLF _).mono ?_
                rintro e w9 ⟨rfl, hww⟩
                subst hww
                go_wp2_with fail
                go_meet
                case rel =>
                  obtain ⟨W8, d8, g1, g2⟩ := HEND.out (by rw [HCO.out]; rfl)
                  exact ⟨W8, d8, by rw [← g1], g2⟩
              | succ g =>
                have hlb : leafB (g + 1) = false := rfl
                rw [hlb] at hLF
                by_cases h1 : tt.n = 1
                case neg =>
                  have e1 : ((tt.n : Int) == 1) = false := by simp; omega
                  go_wp2_with fail
                  refine (hLF _).mono ?_
                  rintro e w9 ⟨rfl, hww⟩
                  subst hww
                  go_wp2_with fail
                  go_meet
                  case rel =>
                    obtain ⟨W8, d8, g1, g2⟩ := HEND.out (by rw [HCO.out, coll, if_neg h1])
                    exact ⟨W8, d8, by rw [← g1], g2⟩
                case pos =>
                  have e1 : ((tt.n : Int) == 1) = true := by simp [h1]
                  have hch := fun d => children_c (W2.drewN d) p2 _ (HN2.out.drewN d) rfl
                  dsimp only at hch
                  have hm0 : X2 0 ∈ lst tt.n X2 := mem_lst.2 ⟨0, by omega, rfl⟩
                  have hE0 := HEL.out _ hm0
                  obtain ⟨p3, q3, ic4, X4, hv3, _⟩ := id hE0
                  have cl0 : W2.cell? ⟨q2, 0, none⟩ = some (.pointer (some ⟨p3, 0, none⟩)) := by
                    rw [HLX.out.cell (by omega)]; exact congrArg some hv3
                  rw [hv3] at hE0
                  have HE0 := Lib.hid hE0
                  clear hE0 hv3
                  go_wp2_with fail
                  refine (hLF _).mono ?_
                  rintro e w9 ⟨rfl, hww⟩
                  subst hww
                  go_wp2_with fail
                  refine (hch _).mono ?_
                  rintro e w9 ⟨rfl, hww⟩
                  subst hww
                  go_wp2_with fail
                  go_roundg g
                  case measure => omega
                  case rel =>
                    have hc := (Chg.refl (fun b => b = tr) W2).setCell (x := ⟨tr, 6, none⟩) (.inl rfl) (.pointer (some ⟨p3, 0, none⟩))
                    have hs3 : ∀ b, (X2 0).2.s b → s3 b := fun b hb => by
                      rcases HO2.out with ho | ho
                      · exact HSX.out b (ho.sub _ hm0 b hb).1
                      · exact (ho.sub _ hm0 b hb).elim
                    have ht0 : (tt.E 0) = ((X2 0).1, (X2 0).2.t) := by rw [HE2.out]; rfl
                    refine ⟨g, (X2 0).2.t, _, (X2 0).2.s, W2.setCell ⟨tr, 6, none⟩ (.pointer (some ⟨p3, 0, none⟩)), _, rfl, rfl, HTW.out.setRoot _, HE0.out.frame (S := fun b => b = tr) (fun b hb => hb ▸ hpZ) hc (fun b hb h => nt3 (hs3 _ (hb ▸ h))), hs3, ?_, ?_, HCW.out.trans hc⟩
                    · rw [HCO.out, coll, if_pos h1, ht0]
                    · have := HWF2.out.2 _ (mem_lst.2 ⟨0, by omega, rfl⟩)
                      rw [ht0] at this
                      exact (Wf_succ.1 this).2.2
        case rest =>
          obtain ⟨W8, d8, rfl, hTM, hc8⟩ := hcut
          have cI8 := hc8.cell cI (fun h => htr h.symm)
          have hget8 : ∀ k, k < n → ∃ (g a : Nat) (N : Nd), ov = some ⟨g, 0, none⟩ ∧ W8.cell? ⟨g, k, none⟩ = some (.pointer (some ⟨a, 0, none⟩)) ∧ NodeAt W8 a N ∧ N.cnt = 0 := fun k hk => by
            obtain ⟨g, a, N, g1, g2, g3, g4⟩ := HGET.out k hk
            have hgb : W.heap.size ≤ g := (HROW.out.lt g (by rw [g1]; rfl)).1
            have h3 := HTA3.out.lt
            refine ⟨g, a, N, g1, hc8.cell g2 (by dsimp only; omega), hc8.node g3 (fun e => ?_), g4⟩
            subst e
            exact g3.ne_of_cells HT7.out (by decide) rfl
          have HG8 := Lib.hid hget8
          have HTM := Lib.hid hTM
          have HC8 := Lib.hid hc8
          clear hget8 hTM hc8 k1 hTf cI
          obtain ⟨b3, hb3⟩ : ∃ b3, decide (0 < n) = b3 := ⟨_, rfl⟩
          have HB3 := Lib.hid hb3
          go_upto_if 123 with (fail)
          clear hb3
          go_cut [] (fun wx => ∃ d, wx = W8.drewN d)
          case first =>
            cases b3 with
            | false =>
              go_wp2_with fail
              go_meet
              case rel => exact ⟨_, rfl⟩
            | true =>
              have hnp : 0 < n := by simpa using HB3.out
              go_wp2_with fail
              go_loopw [126] (fun i wr => ∃ kk : Nat, kk ≤ n ∧ i = .int .i64 kk ∧ ∃ d, wr = W8.drewN d) (fun i _ => n - (intOf i).toNat)
              case atStart => exact ⟨0, by omega, rfl, _, rfl⟩
              case round =>
                obtain ⟨kk, hk, rfl, d, rfl⟩ := hrel
                by_cases hlt : kk < n
                case neg =>
                  go_wp2_with fail
                  go_meet
                  case rel => exact ⟨_, rfl⟩
                obtain ⟨g, a, N, rfl, ca, hNa, hNc⟩ := HG8.out kk hlt
                have hRI := fun d => nodeReinsert_c (W8.drewN d) tr a N (hNa.drewN d) hNc
                clear hNa hNc
                go_wp2_with fail
                refine (hRI _).mono ?_
                rintro e w9 ⟨rfl, d9, rfl⟩
                clear hRI ca cI8
                go_wp2_with fail
                go_roundw
                case measure => simp [intOf]; omega
                case rel => exact ⟨kk + 1, by omega, by go_num, _, rfl⟩
          case rest =>
            obtain ⟨d9, rfl⟩ := hcut
            have e1 : (deleteT ⟨x0, y0, x1, y1⟩ x ⟨cnt, r0, some ⟨h, t⟩⟩).1 = true := by
              unfold deleteT
              dsimp only
              rw [if_pos HCON.out, HYY.out, if_pos rfl]
              split <;> rfl
            have HE1 := Lib.hid e1
            clear e1
            go_wp2_with fail
            go_ret
            obtain ⟨s', hTM, hG'⟩ := HTM.out
            have hcd := Chg.ex (S := fun _ : Nat => False) ((Mix.Ex.refl W8).drewN d9)
            refine ⟨by rw [HE1.out]; rfl, s', hTM.frame hcd (fun _ h => h.elim) (fun _ h => h.elim) (fun h => h), hG', (HCC7.out.trans (HC8.out.mono fun b hb => .inl hb)).drewN _⟩
end Go.Proofs.Ytboeldlilkeihaa
