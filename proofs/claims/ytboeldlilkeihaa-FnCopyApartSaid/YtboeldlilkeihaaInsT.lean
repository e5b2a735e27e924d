/- The contract of 'Insert'. -/
import Derived.Test.YtboeldlilkeihaaInsZ
import Derived.Test.YtboeldlilkeihaaStageT
set_option linter.unusedSimpArgs false
set_option linter.unusedVariables false
namespace Go.Proofs.Ytboeldlilkeihaa
open Go.RowKit Go.Bx
/-- What a root must be into which sR is put. -/
def RootIn (sR : R) (T : Tre) : Prop := match T.root with
  | none => True
  | some q => WfN q.1 q.2 ∧ ((q.2.n = 0 ∧ q.1 = 0 ∧ T.rect = sR) ∨ RootOk q.1 T.rect q.2)
/-- Where there is a root. -/
def AtRoot (c : Int) (Z : Nat → Prop) (w0 : World) (tr : Nat) (s : Nat → Prop) (cnt : Int) (cw : Value) (sR : R) (x : Int) (f : Nat) (T' : Tre) (wx : World) : Prop :=
  ∃ (rt : Value) (r : R) (h : Nat) (t : Nde (El h)) (s1 : Nat → Prop), TreeAt wx tr c cnt r rt cw ∧ ElAt c Z wx (h + 1) rt t s1 ∧ insT sR x f cnt r h t = some T' ∧ WfN h t ∧ ((t.n = 0 ∧ h = 0 ∧ r = sR) ∨ RootOk h r t) ∧ Grew w0 s s1 ∧ Chg (fun b => b = tr) w0 wx
/-- What 'Insert' leaves. -/
def InsTPost (c : Int) (Z : Nat → Prop) (w : World) (tr : Nat) (s : Nat → Prop) (cw : Value) (T' : Tre) (e : Ending) (w' : World) : Prop :=
  e = .returned (.tuple #[]) ∧ ∃ (h p q : Nat) (ic : Int) (t : Nde (El h)) (X : Nat → R × An h) (s' : Nat → Prop), T'.root = some ⟨h, t⟩ ∧ TreeAt w' tr c T'.cnt T'.rect (.pointer (some ⟨p, 0, none⟩)) cw ∧ OwnN c Z w' h p q ic t X s' ∧ Grew w s s' ∧ Chg (fun b => b = tr ∨ s b) w w'
/-- The two corners and the box, each in a block of its own. -/
structure Arg3 (w : World) (x0 y0 x1 y1 : Int) (b0 b1 b2 : Nat) : Prop where
  h00 : w.cell? ⟨b0, 0, none⟩ = some (.int .i64 x0)
  h01 : w.cell? ⟨b0, 1, none⟩ = some (.int .i64 y0)
  h10 : w.cell? ⟨b1, 0, none⟩ = some (.int .i64 x1)
  h11 : w.cell? ⟨b1, 1, none⟩ = some (.int .i64 y1)
  hr : RectAt w b2 0 ⟨x0, y0, x1, y1⟩
theorem Arg3.chg {w w' : World} {x0 y0 x1 y1 : Int} {b0 b1 b2 : Nat} {S : Nat → Prop} (h : Arg3 w x0 y0 x1 y1 b0 b1 b2) (hc : Chg S w w') (h0 : ¬ S b0) (h1 : ¬ S b1) (h2 : ¬ S b2) : Arg3 w' x0 y0 x1 y1 b0 b1 b2 :=
  ⟨hc.cell h.h00 h0, hc.cell h.h01 h0, hc.cell h.h10 h1, hc.cell h.h11 h1, hc.rect h.hr h2⟩
theorem arg3 (w : World) (x0 y0 x1 y1 : Int) : ∃ w1 b0 b1 b2, (((w.alloc (.cells #[.int .i64 x0, .int .i64 y0] 28)).alloc (.cells #[.int .i64 x1, .int .i64 y1] 28)).alloc (.cells #[.int .i64 x0, .int .i64 y0, .int .i64 x1, .int .i64 y1] 91)) = w1 ∧
    w.heap.size = b0 ∧ w.heap.size + 1 = b1 ∧ w.heap.size + 1 + 1 = b2 ∧ Mix.Ex w w1 ∧ w1.heap.size = w.heap.size + 3 ∧ Arg3 w1 x0 y0 x1 y1 b0 b1 b2 := by
  refine ⟨_, _, _, _, rfl, rfl, rfl, rfl, (((Mix.Ex.refl _).alloc _).alloc _).alloc _, by simp, ?_⟩
  have a0 := heap_alloc_new w (.cells #[.int .i64 x0, .int .i64 y0] 28)
  have a1 := heap_alloc_new (w.alloc (.cells #[.int .i64 x0, .int .i64 y0] 28)) (.cells #[.int .i64 x1, .int .i64 y1] 28)
  have x1' := (Mix.Ex.refl (w.alloc (.cells #[.int .i64 x0, .int .i64 y0] 28))).alloc (.cells #[.int .i64 x1, .int .i64 y1] 28)
  have s1 : (w.alloc (.cells #[.int .i64 x0, .int .i64 y0] 28)).heap.size = w.heap.size + 1 := by simp
  have s2 : ((w.alloc (.cells #[.int .i64 x0, .int .i64 y0] 28)).alloc (.cells #[.int .i64 x1, .int .i64 y1] 28)).heap.size = w.heap.size + 1 + 1 := by simp
  have hr := rectAt_alloc ((w.alloc (.cells #[.int .i64 x0, .int .i64 y0] 28)).alloc (.cells #[.int .i64 x1, .int .i64 y1] 28)) ⟨x0, y0, x1, y1⟩ 91 s2
  rw [s1] at a1
  have x2' := (Mix.Ex.refl ((w.alloc (.cells #[.int .i64 x0, .int .i64 y0] 28)).alloc (.cells #[.int .i64 x1, .int .i64 y1] 28))).alloc (.cells #[.int .i64 x0, .int .i64 y0, .int .i64 x1, .int .i64 y1] 91)
  exact ⟨x2'.cell (x1'.cell (cell_of_cells a0 0)), x2'.cell (x1'.cell (cell_of_cells a0 1)), x2'.cell (cell_of_cells a1 0), x2'.cell (cell_of_cells a1 1), hr⟩
set_option maxRecDepth 100000 in
set_option maxHeartbeats 12800000 in
theorem insert_step (c : Int) (Z : Nat → Prop) (tr : Nat) (cw : Value) (sR : R) (x : Int) (hsR : sR.small ∧ sR.ok) (hIns : ∀ b o h, InsC c Z tr b o sR x h (ins sR x h) (fun _ => True)) (f : Nat)
    (IH : ∀ (T T' : Tre) (w : World) (s : Nat → Prop), TreeM c Z w tr T cw s → RootIn sR T → insertT sR x f T = some T' → 0 ≤ T.cnt → T.cnt ≤ 1000000000 →
      Calls Try.prog 64 #[.pointer (some ⟨tr, 0, none⟩), .agg #[.int .i64 sR.x0, .int .i64 sR.y0], .agg #[.int .i64 sR.x1, .int .i64 sR.y1], .int .i64 x] w fun e w' => InsTPost c Z w tr s cw T' e w')
    (T T' : Tre) (w : World) (s : Nat → Prop) (hM : TreeM c Z w tr T cw s) (hR : RootIn sR T) (hT : insertT sR x (f + 1) T = some T') (c0 : 0 ≤ T.cnt) (c1 : T.cnt ≤ 1000000000) :
      Calls Try.prog 64 #[.pointer (some ⟨tr, 0, none⟩), .agg #[.int .i64 sR.x0, .int .i64 sR.y0], .agg #[.int .i64 sR.x1, .int .i64 sR.y1], .int .i64 x] w fun e w' => InsTPost c Z w tr s cw T' e w' := by
  obtain ⟨x0, y0, x1, y1⟩ := sR
  obtain ⟨cnt, r0, root⟩ := T
  dsimp only at c0 c1 hsR IH ⊢
  obtain ⟨⟨rt, hTA, hRt⟩, hps, hpZ, hsZ, hzlt⟩ := hM
  dsimp only at hTA hRt
  have hlt := hTA.lt
  obtain ⟨oa, rfl⟩ : ∃ oa, rt = .pointer oa := by
    cases root with
    | none => exact ⟨_, hRt.1⟩
    | some q => obtain ⟨p, q, ic, X, hv, _⟩ := hRt; exact ⟨_, hv⟩
  go_enter Try.func64, Try.ntmps64
  go_upto_region 2 with (fail)
  obtain ⟨w1, b0, b1, b2, e1, e2, e3, e4, hx1, hsz, hA3⟩ := arg3 w x0 y0 x1 y1
  rw [e1, e4, e3, e2]
  have HSZ := Lib.hid hsz
  have HE2 := Lib.hid e2
  have HE3 := Lib.hid e3
  have HE4 := Lib.hid e4
  have hTA1 := hTA.ex hx1
  have k6 := hTA1.cell6
  have HX1 := Lib.hid hx1
  have HA3 := Lib.hid hA3
  have HT := Lib.hid hT
  have HR := Lib.hid hR
  have HRT := Lib.hid hRt
  clear e1 e2 e3 e4 hsz hx1 hTA hA3 hT hR hRt
  go_upto_if 20 with (fail)
  go_cut [] (AtRoot c Z w1 tr s cnt cw ⟨x0, y0, x1, y1⟩ x (f + 1) T')
  case first =>
    cases root with
    | none =>
      obtain ⟨hoa, hs0⟩ := HRT.out
      obtain rfl : oa = none := by injection hoa
      have k0 := hTA1.cell0
      go_wp2_with fail
      refine (newNode_c _ tr c true k0).mono ?_
      rintro e w2 ⟨p, q, rfl, hN, hL, hpq, hp, hq, hx⟩
      have hC12 : Chg (fun b => b = tr) w1 w2 := Chg.ex hx
      have hA2 := HA3.out.chg (S := fun _ => False) (Chg.ex hx) (fun h => h) (fun h => h) (fun h => h)
      have hTA2 := hTA1.ex hx
      have hE2 := stage_new (Z := Z) hN hL hpq
      have hb2t : b2 ≠ tr := by have := HE4.out; omega
      have hs2 : ∀ b, (b = p ∨ b = q) → w1.heap.size ≤ b := fun b hb => by rcases hb with rfl | rfl; exact hp; exact hq
      obtain ⟨w3, hw3, hl3, -⟩ := hTA2.opn
      subst hw3
      have ⟨m0, m1, m2, m3⟩ := hA2.hr
      rw [World.cell_putT_other _ _ _ _ _ _ _ _ _ _ hb2t] at m0 m1 m2 m3
      dsimp only at m0 m1 m2 m3
      have HH := Lib.hid (And.intro hC12 hE2)
      clear hN hL hx hTA2 hA2 hC12 hE2 k0 k6 hTA1 hpq hp hq
      go_wp2_with fail
      go_meet
      case rel =>
        obtain ⟨hC12, hE2⟩ := HH.out
        have hc := hC12.putT (p := tr) (c := c) (cnt := cnt) (r := ⟨x0, y0, x1, y1⟩) (rt := .pointer (some ⟨p, 0, none⟩)) (cw := cw) (.inl rfl)
        have hc2 := (Chg.refl (fun b => b = tr) (w3.putT tr c cnt r0 (.pointer none) cw)).putT (p := tr) (c := c) (cnt := cnt) (r := ⟨x0, y0, x1, y1⟩) (rt := .pointer (some ⟨p, 0, none⟩)) (cw := cw) (.inl rfl)
        rw [World.putT_putT] at hc hc2
        have ht1 : tr < w1.heap.size := by have := HSZ.out; omega
        refine ⟨_, _, 0, _, _, TreeAt.put _ _ _ _ _ hl3, hE2.frame (S := fun b => b = tr) (fun b hb => hb ▸ hpZ) hc2 (fun b hb h => ?_), ?_, ⟨Nat.zero_le _, fun e he => by simp [lst] at he⟩, .inl ⟨rfl, rfl, rfl⟩, fun b hb => .inr (hs2 b hb), hc⟩
        · have := hs2 b h; subst hb; omega
        · exact HT.out
    | some q =>
      obtain ⟨p, q', ic, X, hv, _⟩ := HRT.out
      obtain rfl : oa = some ⟨p, 0, none⟩ := by injection hv
      go_wp2_with fail
      go_meet
      case rel => exact ⟨_, r0, q.1, q.2, s, hTA1, (HRT.out : ElAt c Z w (q.1 + 1) _ q.2 s).frame (S := fun _ => False) (fun _ h => h.elim) (Chg.ex HX1.out) (fun _ h => h.elim), HT.out, HR.out.1, HR.out.2, Grew.refl _ _, Chg.refl _ _⟩
  case rest =>
    have hwf : ∀ b, s b → b < w.heap.size := fun b hb => HRT.out.lt hb
    obtain ⟨rt, r, h, t, s1, tTA, tEl, tIns, tW, tR, tG, tC⟩ := hcut
    have z1 := HSZ.out
    have z2 := HE2.out
    have z3 := HE3.out
    have z4 := HE4.out
    have z5 := tC.size
    have d0 : b0 ≠ tr := by omega
    have d1 : b1 ≠ tr := by omega
    have d2 : b2 ≠ tr := by omega
    have n0 : ∀ b, s1 b → s b ∨ w1.heap.size ≤ b := tG
    have tA3 := HA3.out.chg tC d0 d1 d2
    have ns1 : ¬ s1 tr := fun h => by rcases tG _ h with h | h; exact hps h; omega
    have hCOW := cow_c c Z wc tr tr 6 h rt t s1 tTA.cell0 tTA.cell6 (tTA.frz 6) tEl
    have HST := Lib.hid (fun e w' hP => stage_root (m := 0) (h := h) (t := t) (e := e) (w' := w') tTA (fun b hb => tEl.lt hb) ns1 hpZ hP)
    have HTEL := Lib.hid (fun b (hb : s1 b) => tEl.lt hb)
    have HW := Lib.hid hwf
    have HF := Lib.hid (And.intro tIns (And.intro tW (And.intro tR (And.intro tG (And.intro tC tA3)))))
    clear tTA tEl tIns tW tR tG tC tA3 z1 z2 z3 z4 z5 n0 hTA1 k6 hwf
    go_wp2_with fail
    refine hCOW.mono ?_
    rintro e w2 hP
    obtain ⟨rfl, W, p, q, ic, X, s2, dW, rfl, hO, hTA2, hG2, hC2⟩ := HST.out _ _ hP
    clear hP hCOW
    obtain ⟨tIns, tW, tR, tG, tC, tA3⟩ := HF.out
    have z1 := HSZ.out
    have z2 := HE2.out
    have z3 := HE3.out
    have z4 := HE4.out
    have z5 := tC.size
    have z6 := hC2.size
    have gs2 : ∀ b, s2 b → s b ∨ w1.heap.size ≤ b := fun b hb => by
      rcases hG2 b hb with h | h
      · exact tG b h
      · exact .inr (by omega)
    have ns2 : ∀ b, w.heap.size ≤ b → b < w1.heap.size → ¬ s2 b := fun b h1 h2 h => by
      rcases gs2 b h with h | h
      · have := HW.out b h; omega
      · omega
    have nt2 : ¬ s2 tr := fun h => by
      rcases gs2 tr h with h | h
      · exact hps h
      · omega
    have A2 := tA3.chg hC2 d0 d1 d2
    have sZ2 : ∀ b, s2 b → ¬ Z b := fun b hb hz => by
      rcases gs2 b hb with h | h
      · exact hsZ b h hz
      · have := hzlt b hz; omega
    have ctx : InsCtx c Z W s2 tr tr 2 r b2 0 ⟨x0, y0, x1, y1⟩ := ⟨hTA2.cell0, hTA2.cell7, nt2, hTA2.rect, nt2, A2.hr, ns2 b2 (by omega) (by omega), sZ2, fun k hk => by have := hzlt k hk; omega⟩
    have hyok := ins_ok ⟨x0, y0, x1, y1⟩ x hsR h r t (by rcases tR with ⟨_, h, _⟩ | ⟨a, b, _⟩; exact .inl h; exact .inr ⟨a, b⟩) tW
    have hIH := fun m => hIns b2 0 h (W.drewN m) p q ic X s2 tr 2 r t trivial (hO.drewN m) (ctx.drewN m) tW (by rcases tR with ⟨_, h, _⟩ | ⟨a, _⟩; exact .inl h; exact .inr a)
    have hrs : r.small := by
      rcases tR with ⟨_, _, rfl⟩ | ⟨_, b, c⟩
      · exact hsR.1
      · exact b.small fun u hu => by
          obtain ⟨v, hv, rfl⟩ := List.mem_map.1 hu
          exact (c.items v hv).1
    have k6 := hTA2.cell6
    obtain ⟨y, hyy⟩ : ∃ y, ins ⟨x0, y0, x1, y1⟩ x h r t = y := ⟨_, rfl⟩
    rw [hyy] at hyok hIH
    have HYY := Lib.hid hyy
    have HYOK := Lib.hid hyok
    have HT2 := Lib.hid hTA2
    have HG2 := Lib.hid hG2
    have HC2 := Lib.hid hC2
    have HA2 := Lib.hid A2
    have HTR := Lib.hid tR
    clear hO hTA2 hG2 hC2 A2 ctx hyok hyy tIns tW tG tC tA3 z1 z2 z3 z4 z5 z6 tR HST HTEL
    go_wp2_with fail
    (refine Mix.wp_region_drw 9 [5] (by kernel_rfl) (by kernel_rfl) ?_; simp only [List.take_succ_cons, List.take_zero, List.drop_succ_cons, List.drop_zero]; (repeat (go_big_quiet_step (fail))); refine wpQuiet_nil ?_)
    (refine Mix.wpTl_dr (fun n K hK => ?_); go_simp)
    refine (hIH _).mono ?_
    rintro e w3 ⟨rfl, ic3, X3, s3, hO3, hg3, hc3⟩
    refine ⟨_, rfl, w3, Mix.Dr.refl _, hK _ _ trivial ?_⟩
    (clear hK K; simp only [Act.put, List.setIfInBounds_toArray, List.set_cons_zero, List.set_cons_succ, List.take_succ_cons, List.take_zero, List.drop_succ_cons, List.drop_zero])
    (repeat (go_big_quiet_step (fail)))
    (refine wpQuiet_nil ?_; intro nq)
    clear hIH k6
    have hc3' : Chg s2 W w3 := (Chg.ex ((Mix.Ex.refl W).drewN _)).trans hc3
    have z6 := HC2.out.size
    have z7 := hc3'.size
    have z1 := HSZ.out
    have z5 := HF.out.2.2.2.2.1.size
    have T3 := HT2.out.chg hc3' nt2
    have A3 := HA2.out.chg hc3' (ns2 b0 (by have := HE2.out; omega) (by have := HE2.out; omega)) (ns2 b1 (by have := HE3.out; omega) (by have := HE3.out; omega)) (ns2 b2 (by have := HE4.out; omega) (by have := HE4.out; omega))
    have gs3 : ∀ b, s3 b → s b ∨ w1.heap.size ≤ b := fun b hb => by
      rcases hg3 b hb with h | h
      · exact gs2 b h
      · have h : W.heap.size ≤ b := h
        exact .inr (by omega)
    have nt3 : ¬ s3 tr := fun h => by
      rcases gs3 tr h with h | h
      · exact hps h
      · omega
    have sZ3 : ∀ b, s3 b → ¬ Z b := fun b hb hz => by
      rcases gs3 b hb with h | h
      · exact hsZ b h hz
      · have := hzlt b hz; omega
    have hG : Grew w s s3 := fun b hb => by
      rcases gs3 b hb with h | h
      · exact .inl h
      · exact .inr (by omega)
    have hCC : Chg (fun b => b = tr ∨ s b) w w3 := by
      have c1 : Chg (fun b => b = tr ∨ s b) w wc := (Chg.ex HX1.out).trans (HF.out.2.2.2.2.1.mono fun b hb => .inl hb)
      refine (c1.trans (HC2.out.mono fun b hb => .inl hb)).trans' hc3' fun b hb hb2 => ?_
      rcases gs2 b hb2 with h | h
      · exact .inr h
      · omega
    obtain ⟨sp, g, t'⟩ := y
    dsimp only at hO3 ⊢
    have tIns := HF.out.1
    rw [insT] at tIns
    (try dsimp only at tIns)
    rw [HYY.out] at tIns
    (try dsimp only at tIns)
    have HIN := Lib.hid tIns
    have HO3 := Lib.hid hO3
    have HT3 := Lib.hid T3
    have HA3' := Lib.hid A3
    have HG := Lib.hid hG
    have HCC := Lib.hid hCC
    clear tIns hO3 T3 A3 hG hCC hc3 hc3' hg3 z6 z7 z1 z5
    cases sp with
    | false =>
      have k1 := HT3.out.cell1
      have k6 := HT3.out.cell6
      have kf := HT3.out.frz 1
      cases g with
      | false =>
        as_aux_lemma =>
        have fin : ∀ d, InsTPost c Z w tr s cw T' (.returned (.tuple #[])) ((w3.setCell ⟨tr, 1, none⟩ (.int .i64 (cnt + 1))).drewN d) := by
          intro d
          have e := HIN.out
          simp only [Bool.false_eq_true, if_false, Option.some.injEq] at e
          have h3 := HT3.out
          have ee : w3.setCell ⟨tr, 1, none⟩ (.int .i64 (cnt + 1)) = w3.putT tr c (cnt + 1) r (.pointer (some ⟨p, 0, none⟩)) cw := by
            conv => lhs; rw [← h3.self]
            exact World.setCell_putT1 _ _ _ _ _ _ _ _
          have hc := (Chg.refl (fun b => b = tr) w3).putT (p := tr) (c := c) (cnt := cnt + 1) (r := r) (rt := .pointer (some ⟨p, 0, none⟩)) (cw := cw) (.inl rfl)
          rw [ee]
          subst e
          refine ⟨rfl, h, p, q, ic3, t', X3, s3, rfl, (TreeAt.put _ _ _ _ _ h3.lt).drewN d, ?_, HG.out, ?_⟩
          · exact (HO3.out.frame (S := fun b => b = tr) (fun b hb => hb ▸ hpZ) hc (fun b hb => hb ▸ nt3)).drewN d
          · exact (HCC.out.trans (hc.mono fun b hb => .inl hb)).drewN d
        go_wp2_with fail
        go_end0
        exact fin _
      | true =>
        as_aux_lemma =>
        have hfz := HT3.out.frz
        have fz2 := hfz 2
        have fz3 := hfz (2 + 1)
        have fz4 := hfz (2 + 2)
        have fz5 := hfz (2 + 3)
        have htb : tr ≠ b2 := fun h => d2 h.symm
        have hEX := fun d => expand_c (w3.drewN d) tr 2 b2 0 r ⟨x0, y0, x1, y1⟩ (HT3.out.rect.of_dr d) (HA3'.out.hr.of_dr d) htb fz2 fz3 fz4 fz5
        have e := HIN.out
        simp only [Bool.false_eq_true, if_false, if_true, Option.some.injEq] at e
        have HE := Lib.hid e
        have hT4 := HT3.out.setR (r.expand ⟨x0, y0, x1, y1⟩)
        have hC4 := (Chg.refl (fun b => b = tr) w3).setR (k := tr) (o := 2) (.inl rfl) (r.expand ⟨x0, y0, x1, y1⟩)
        have hO4 := HO3.out.frame (S := fun b => b = tr) (fun b hb => hb ▸ hpZ) hC4 (fun b hb => hb ▸ nt3)
        have hC4' := HCC.out.trans (hC4.mono fun b hb => .inl hb)
        have hfr2 : ∀ d, (setRect w3 tr 2 (r.expand ⟨x0, y0, x1, y1⟩)).drewN d = (setRect (w3.drewN d) tr 2 (r.expand ⟨x0, y0, x1, y1⟩)) := fun d => rfl
        clear hfz fz2 fz3 fz4 fz5 e hC4
        go_wp2_with fail
        refine (hEX _).mono ?_
        rintro e w4 ⟨rfl, d4, rfl⟩
        rw [← hfr2]
        clear hfr2 hEX k1 k6 kf
        generalize (setRect w3 tr 2 (r.expand ⟨x0, y0, x1, y1⟩)) = w4 at hT4 hO4 hC4' ⊢
        have k1 := hT4.cell1
        have k6 := hT4.cell6
        have kf := hT4.frz 1
        have hLF := fun d => leaf_c (w4.drewN d) p _ (hO4.nx.nd.drewN d)
        have hSO := fun d => sortN_c hO4 sZ3 d
        have fin : ∀ (d : Nat) (w5 : World) (X5 : Nat → R × An h), OwnN c Z w5 h p q ic3 (srtB h t') X5 s3 → Chg s3 w4 w5 → InsTPost c Z w tr s cw T' (.returned (.tuple #[])) ((w5.setCell ⟨tr, 1, none⟩ (.int .i64 (cnt + 1))).drewN d) := by
          intro d w5 X5 hO5 hC5
          have h5 := hT4.chg hC5 nt3
          have ee : w5.setCell ⟨tr, 1, none⟩ (.int .i64 (cnt + 1)) = w5.putT tr c (cnt + 1) (r.expand ⟨x0, y0, x1, y1⟩) (.pointer (some ⟨p, 0, none⟩)) cw := by
            conv => lhs; rw [← h5.self]
            exact World.setCell_putT1 _ _ _ _ _ _ _ _
          have hc := (Chg.refl (fun b => b = tr) w5).putT (p := tr) (c := c) (cnt := cnt + 1) (r := r.expand ⟨x0, y0, x1, y1⟩) (rt := .pointer (some ⟨p, 0, none⟩)) (cw := cw) (.inl rfl)
          rw [ee]
          have e := HE.out
          subst e
          refine ⟨rfl, h, p, q, ic3, srtB h t', X5, s3, rfl, (TreeAt.put _ _ _ _ _ h5.lt).drewN d, ?_, HG.out, ?_⟩
          · exact (hO5.frame (S := fun b => b = tr) (fun b hb => hb ▸ hpZ) hc (fun b hb => hb ▸ nt3)).drewN d
          · refine ((hC4'.trans' hC5 fun b hb hb2 => ?_).trans (hc.mono fun b hb => .inl hb)).drewN d
            rcases HG.out b hb2 with h | h
            · exact .inr h
            · omega
        have k15 : ∀ (w5 : World), Chg s3 w4 w5 → w5.cell? ⟨tr, 1, none⟩ = some (.int .i64 cnt) ∧ w5.frozen? ⟨tr, 1, none⟩ = false := fun w5 hC5 => ⟨(hT4.chg hC5 nt3).cell1, (hT4.chg hC5 nt3).frz 1⟩
        have HK15 := Lib.hid k15
        have FIN := Lib.hid fin
        have HO4 := Lib.hid hO4
        have HSO := Lib.hid hSO
        clear k15 fin hT4 hO4 hC4' hSO
        go_wp2_with fail
        refine (hLF _).mono ?_
        rintro e w5 ⟨rfl, hww⟩
        subst hww
        clear hLF
        cases h with
        | zero =>
          have hlb : leafB 0 = true := rfl
          go_wp2_with fail
          go_end0
          exact FIN.out _ w4 X3 HO4.out (Chg.refl _ _)
        | succ h =>
          have hlb : leafB (h + 1) = false := rfl
          go_wp2_with fail
          refine (HSO.out _).mono ?_
          rintro e w5 ⟨rfl, X5, hO5, hC5⟩
          obtain ⟨j1, j2⟩ := HK15.out _ hC5
          have HO5 := Lib.hid hO5
          have HC5 := Lib.hid hC5
          clear hO5 hC5
          go_wp2_with fail
          go_end0
          exact FIN.out 0 w5 X5 HO5.out HC5.out
    | true =>
      as_aux_lemma =>
      have k6 := HT3.out.cell6
      obtain ⟨hn64, hper, _⟩ := HYOK.out.split rfl
      have hwft := HYOK.out.wf
      dsimp only at hn64 hper hwft
      have own3 := HO3.out
      have htp : tr ≠ p := fun h => nt3 (h ▸ own3.ow.sp)
      have htq : tr ≠ q := fun h => nt3 (h ▸ own3.ow.sq)
      have hsmt : ∀ j, j < t'.n → (mp An.v X3 j).1.small := fun j hj => by
        have h1 := (hwft.2 _ (mem_lst.2 ⟨j, hj, rfl⟩)).small
        rw [own3.tE] at h1
        exact h1
      have hSP := fun d => split_c (w3.drewN d) tr p q c ic3 (leafB h) t'.n (mp An.v X3) r HT3.out.cell0 HT3.out.cell7 (own3.nx.nd.drewN d) (own3.nx.ls.drewN d) own3.nx.fit own3.nx.pq htp htq (by omega) (by omega) hrs hsmt
      obtain ⟨g0, g1, g2, g3⟩ := HT3.out.rect
      have sSp := fun d (e : Ending) (w4 : World) (hS : SplitPost (w3.drewN d) p q c ic3 (leafB h) r t'.n (mp An.v X3) e w4) => (own3.drewN d).split (e := e) (w' := w4) (by omega) sZ3 hS
      have SSP := Lib.hid sSp
      have HN64 := Lib.hid hn64
      have HPER := Lib.hid hper
      have HWFT := Lib.hid hwft
      clear sSp hn64 hper hwft own3 hsmt
      go_wp2_with fail
      refine (hSP _).mono ?_
      rintro e w4 hS
      obtain ⟨p', q', A, B, sl, sr, rfl, hp', hOl, hOr, hsl, hgr, hsep, hch4'⟩ := SSP.out _ _ _ hS
      have hch4 : Chg (fun b => b = p ∨ b = q) w3 w4 := (Chg.ex ((Mix.Ex.refl w3).drewN _)).trans hch4'
      clear hS hSP SSP g0 g1 g2 g3 hch4'
      have hpq4 : ∀ b, (b = p ∨ b = q) → s3 b := fun b hb => by rcases hb with rfl | rfl; exact HO3.out.ow.sp; exact HO3.out.ow.sq
      have T4 := HT3.out.chg hch4 (by simp; omega)
      have A4 : Arg3 w4 x0 y0 x1 y1 b0 b1 b2 := by
        have z1 := HSZ.out
        have z2 := HE2.out
        have z3 := HE3.out
        have z4 := HE4.out
        have key : ∀ b, w.heap.size ≤ b → b < w1.heap.size → ¬ (b = p ∨ b = q) := fun b h1 h2 h => by
          rcases gs3 b (hpq4 b h) with h | h
          · have := HW.out b h; omega
          · omega
        exact HA3'.out.chg hch4 (key _ (by omega) (by omega)) (key _ (by omega) (by omega)) (key _ (by omega) (by omega))
      have hlen : tr < w4.heap.size := T4.lt
      have ntl : ¬ sl tr := fun h => nt3 (hsl _ h)
      have ntr : ¬ sr tr := fun h => by
        rcases hgr _ h with h | h
        · exact nt3 h
        · have := HT3.out.lt
          have h : w3.heap.size ≤ tr := h
          omega
      obtain ⟨l, hl⟩ : ∃ l, (cut (dfl h) r t').1 = l := ⟨_, rfl⟩
      obtain ⟨rr, hrr⟩ : ∃ rr, (cut (dfl h) r t').2 = rr := ⟨_, rfl⟩
      have hbl : bndF (fun j => (A j).1) (l.n - 1) = bnd l := by rw [← hl]; unfold bnd; rw [hOl.tE]; rfl
      have hbr : bndF (fun j => (B j).1) (rr.n - 1) = bnd rr := by rw [← hrr]; unfold bnd; rw [hOr.tE]; rfl
      have kl : NodeAt w4 p _ := hOl.nx.nd
      have kr : NodeAt w4 p' _ := hOr.nx.nd
      have ll := hOl.nx.n64
      have lr := hOr.nx.n64
      rw [hl] at kl ll
      rw [hrr] at kr lr
      have hcc4 : Chg (fun b => b = tr ∨ s b) w w4 := HCC.out.trans' hch4 fun b hb hb2 => by
        rcases HG.out b (hpq4 b hb2) with h | h
        · exact .inr h
        · omega
      have HL := Lib.hid hl
      have HRR := Lib.hid hrr
      have HOL := Lib.hid hOl
      have HOR := Lib.hid hOr
      have HGR := Lib.hid hgr
      have HC4 := Lib.hid hch4
      have HCC4 := Lib.hid hcc4
      have HBL := Lib.hid hbl
      have HBR := Lib.hid hbr
      have HKL := Lib.hid kl
      have HKR := Lib.hid kr
      have HA4 := Lib.hid A4
      have HT4 := Lib.hid T4
      have k0 := T4.cell0
      clear hl hrr hOl hOr hgr hch4 hcc4 hbl hbr kl kr A4 k6
      go_wp2_with fail
      refine (newNode_c _ tr c false k0).mono ?_
      rintro e w5 ⟨p2, q2, rfl, hN, hL, hpq2, hp2, hq2, hx⟩
      have T5 := T4.ex hx
      have tp2 : tr ≠ p2 := by omega
      have tq2 : tr ≠ q2 := by omega
      have hx5 := Chg.ex (S := fun b => b = tr ∨ b = p2 ∨ b = q2) hx
      clear k0 hx T4
      obtain ⟨w6, hw6, ht6, hp6, hq6, -⟩ := open3 T5 hN hL
      subst hw6
      have HX5 := Lib.hid hx5
      have qp2 := hpq2.symm
      have pt2 := tp2.symm
      have qt2 := tq2.symm
      clear T5 hN hL hx5
      go_upto_region 11 with (fail)
      have pl : p < w4.heap.size := HKL.out.lt
      have pl' : p' < w4.heap.size := HKR.out.lt
      have np : ¬ (p = tr ∨ p = p2 ∨ p = q2) := by
        rintro (h | h | h)
        · exact htp h.symm
        · omega
        · omega
      have np' : ¬ (p' = tr ∨ p' = p2 ∨ p' = q2) := by
        have : w3.heap.size ≤ p' := hp'
        have := HT3.out.lt
        omega
      have c6 := re3 HX5.out (.inl (.inl rfl)) (.inl (.inr (.inl rfl))) (.inl (.inr (.inr rfl))) tp2 tq2 hpq2 c cnt r (.pointer (some ⟨p2, 0, none⟩)) cw ⟨c, false, 0, q2, fun _ => R0⟩ (zeroE false)
      obtain ⟨s6, n6, l6⟩ := shut3 (c := c) (cnt := cnt) (r := r) (rt := .pointer (some ⟨p2, 0, none⟩)) (cw := cw) (N := ⟨c, false, 0, q2, fun _ => R0⟩) (T := elT false) (f := zeroE false) ht6 hp6 hq6 tp2 tq2 hpq2
      have kp6 := c6.node HKL.out np
      clear HX5
      change Code.wp _ _ _ _ (((w6.putT tr c cnt r (.pointer (some ⟨p2, 0, none⟩)) cw).putN p2 ⟨c, false, 0, q2, fun _ => R0⟩).putL q2 (elT false) (zeroE false))
      generalize (((w6.putT tr c cnt r (.pointer (some ⟨p2, 0, none⟩)) cw).putN p2 ⟨c, false, 0, q2, fun _ => R0⟩).putL q2 (elT false) (zeroE false)) = w7 at c6 s6 n6 l6 kp6 ⊢
      have hRL := fun d => noderect_c (w7.drewN d) p _ l.n (kp6.drewN d) rfl ll
      dsimp only at hRL
      rw [HBL.out] at hRL
      have k6 := s6.cell6
      have HC6 := Lib.hid c6
      have HS6 := Lib.hid s6
      have HN6 := Lib.hid n6
      have HL6 := Lib.hid l6
      clear kp6 c6 s6 n6 l6 ht6 hp6 hq6
      go_wp2_with fail
      have hNE : Nonempty (Mix.Kept (fun W => W.cell? ⟨tr, 6, none⟩ = some (.pointer (some ⟨p2, 0, none⟩)))) := ⟨⟨_, k6⟩⟩
      have hY : ∀ y : Mix.Kept (fun W => W.cell? ⟨tr, 6, none⟩ = some (.pointer (some ⟨p2, 0, none⟩))), y.W.cell? ⟨tr, 6, none⟩ = some (.pointer (some ⟨p2, 0, none⟩)) := fun y => y.ok
      (refine Mix.wp_region_kept (fun W => W.cell? ⟨tr, 6, none⟩ = some (.pointer (some ⟨p2, 0, none⟩))) 5 [3, 0] (by kernel_rfl) (by kernel_rfl) (fun _ _ h => h) k6 ?_; simp only [List.take_succ_cons, List.take_zero, List.drop_succ_cons, List.drop_zero])
      (repeat (go_big_quiet_step (fail))); refine wpQuiet_nil ?_
      (refine Mix.wpTl_dr (fun n K hK => ?_); go_simp)
      refine (hRL _).mono ?_
      rintro e w8 ⟨⟨bl, hbl, rfl⟩, hx8⟩
      have hx8' : Mix.Ex w7 w8 := ((Mix.Ex.refl w7).drewN _).trans hx8
      have s8 := HS6.out.ex hx8'
      have n8 := HN6.out.ex hx8'
      have l8 := HL6.out.ex hx8'
      have c8 := HC6.out.trans (Chg.ex hx8')
      have HB1 := Lib.hid hbl
      clear hRL hx8 hx8' hbl k6 HS6 HN6 HL6 HC6
      obtain ⟨w9, hw9, ht9, hp9, hq9, -⟩ := open3 s8 n8 l8
      subst hw9
      have HC8 := Lib.hid c8
      have hs6 := s8.cell6
      clear s8 n8 l8 c8
      refine ⟨_, rfl, _, Mix.Dr.refl _, hs6, hK _ _ hs6 ?_⟩
      (clear hK K; simp only [Act.put, List.setIfInBounds_toArray, List.set_cons_zero, List.set_cons_succ, List.take_succ_cons, List.take_zero, List.drop_succ_cons, List.drop_zero])
      (repeat (go_big_quiet_step (fail))); refine wpQuiet_nil ?_
      (refine Mix.wpTl_dr (fun n K hK => ?_); go_simp; refine ⟨_, ⟨_, rfl⟩, ?hs, hK _ _ ?hs ?_⟩; (case hs => rw [World.cell_putL_other _ _ _ _ _ _ _ tq2, World.cell_putN_other _ _ _ _ _ _ tp2]; exact World.cell_putT6 _ _ _ _ _ _ _ (by assumption)); clear hK K; simp only [Act.put, List.take_succ_cons, List.take_zero, List.drop_succ_cons, List.drop_zero])
      (refine wpQuiet_nil ?_; intro nq)
      clear hY hNE
      rw [setR_mk]
      as_aux_lemma =>
      have c9 := re3 HC8.out (.inl (.inl rfl)) (.inl (.inr (.inl rfl))) (.inl (.inr (.inr rfl))) tp2 tq2 hpq2 c cnt r (.pointer (some ⟨p2, 0, none⟩)) cw ⟨c, false, 0, q2, Bx.upd (fun _ => R0) 0 bl⟩ (zeroE false)
      obtain ⟨s9, n9, l9⟩ := shut3 (c := c) (cnt := cnt) (r := r) (rt := .pointer (some ⟨p2, 0, none⟩)) (cw := cw) (N := ⟨c, false, 0, q2, Bx.upd (fun _ => R0) 0 bl⟩) (T := elT false) (f := (zeroE false)) ht9 hp9 hq9 tp2 tq2 hpq2
      have kp9 := c9.node HKR.out np'
      clear HC8
      generalize (((w9.putT tr c cnt r (.pointer (some ⟨p2, 0, none⟩)) cw).putN p2 ⟨c, false, 0, q2, Bx.upd (fun _ => R0) 0 bl⟩).putL q2 (elT false) (zeroE false)) = w10 at c9 s9 n9 l9 kp9 ⊢
      have hRR := fun d => noderect_c (w10.drewN d) p' _ rr.n (kp9.drewN d) rfl lr
      dsimp only at hRR
      rw [HBR.out] at hRR
      have k6 := s9.cell6
      have HC9 := Lib.hid c9
      have HS9 := Lib.hid s9
      have HN9 := Lib.hid n9
      have HL9 := Lib.hid l9
      clear kp9 c9 s9 n9 l9 ht9 hp9 hq9
      go_wp2_with fail
      have hNE : Nonempty (Mix.Kept (fun W => W.cell? ⟨tr, 6, none⟩ = some (.pointer (some ⟨p2, 0, none⟩)))) := ⟨⟨_, k6⟩⟩
      have hY : ∀ y : Mix.Kept (fun W => W.cell? ⟨tr, 6, none⟩ = some (.pointer (some ⟨p2, 0, none⟩))), y.W.cell? ⟨tr, 6, none⟩ = some (.pointer (some ⟨p2, 0, none⟩)) := fun y => y.ok
      (refine Mix.wp_region_kept (fun W => W.cell? ⟨tr, 6, none⟩ = some (.pointer (some ⟨p2, 0, none⟩))) 5 [3, 0] (by kernel_rfl) (by kernel_rfl) (fun _ _ h => h) k6 ?_; simp only [List.take_succ_cons, List.take_zero, List.drop_succ_cons, List.drop_zero])
      (repeat (go_big_quiet_step (fail))); refine wpQuiet_nil ?_
      (refine Mix.wpTl_dr (fun n K hK => ?_); go_simp)
      refine (hRR _).mono ?_
      rintro e w11 ⟨⟨br, hbr, rfl⟩, hx11⟩
      have hx11' : Mix.Ex w10 w11 := ((Mix.Ex.refl w10).drewN _).trans hx11
      have s11 := HS9.out.ex hx11'
      have n11 := HN9.out.ex hx11'
      have l11 := HL9.out.ex hx11'
      have c11 := HC9.out.trans (Chg.ex hx11')
      have HB2 := Lib.hid hbr
      clear hRR hx11 hx11' hbr k6 HS9 HN9 HL9 HC9
      obtain ⟨w12, hw12, ht12, hp12, hq12, -⟩ := open3 s11 n11 l11
      subst hw12
      have HC11 := Lib.hid c11
      have hs6 := s11.cell6
      clear s11 n11 l11 c11
      refine ⟨_, rfl, _, Mix.Dr.refl _, hs6, hK _ _ hs6 ?_⟩
      (clear hK K; simp only [Act.put, List.setIfInBounds_toArray, List.set_cons_zero, List.set_cons_succ, List.take_succ_cons, List.take_zero, List.drop_succ_cons, List.drop_zero])
      (repeat (go_big_quiet_step (fail))); refine wpQuiet_nil ?_
      (refine Mix.wpTl_dr (fun n K hK => ?_); go_simp; refine ⟨_, ⟨_, rfl⟩, ?hs, hK _ _ ?hs ?_⟩; (case hs => rw [World.cell_putL_other _ _ _ _ _ _ _ tq2, World.cell_putN_other _ _ _ _ _ _ tp2]; exact World.cell_putT6 _ _ _ _ _ _ _ (by assumption)); clear hK K; simp only [Act.put, List.take_succ_cons, List.take_zero, List.drop_succ_cons, List.drop_zero])
      (refine wpQuiet_nil ?_; intro nq)
      clear hY hNE
      rw [setR_mk]
      go_wp2_with fail
      refine (children_c _ p2 ⟨c, false, 0, q2, Bx.upd (Bx.upd (fun _ => R0) 0 bl) 1 br⟩ ((shut3 ht12 hp12 hq12 tp2 tq2 hpq2).2.1.drewN _) rfl).mono ?_
      rintro e w13 ⟨rfl, hww⟩
      subst hww
      go_wp2_with fail
      refine (children_c _ p2 ⟨c, false, 0, q2, Bx.upd (Bx.upd (fun _ => R0) 0 bl) 1 br⟩ ((shut3 ht12 hp12 hq12 tp2 tq2 hpq2).2.1.drewN _) rfl).mono ?_
      rintro e w13 ⟨rfl, hww⟩
      subst hww
      go_upto_region 16 with (fail)
      as_aux_lemma =>
      have c14 := re3 HC11.out (.inl (.inl rfl)) (.inl (.inr (.inl rfl))) (.inl (.inr (.inr rfl))) tp2 tq2 hpq2 c cnt r (.pointer (some ⟨p2, 0, none⟩)) cw ⟨c, false, 2, q2, Bx.upd (Bx.upd (fun _ => R0) 0 bl) 1 br⟩ (Bx.upd (Bx.upd (zeroE false) 0 (.pointer (some ⟨p, 0, none⟩))) 1 (.pointer (some ⟨p', 0, none⟩)))
      obtain ⟨s14, n14, l14⟩ := shut3 (c := c) (cnt := cnt) (r := r) (rt := .pointer (some ⟨p2, 0, none⟩)) (cw := cw) (N := ⟨c, false, 2, q2, Bx.upd (Bx.upd (fun _ => R0) 0 bl) 1 br⟩) (T := elT false) (f := (Bx.upd (Bx.upd (zeroE false) 0 (.pointer (some ⟨p, 0, none⟩))) 1 (.pointer (some ⟨p', 0, none⟩)))) ht12 hp12 hq12 tp2 tq2 hpq2
      clear HC11
      change Code.wp _ _ _ _ ((((w12.putT tr c cnt r (.pointer (some ⟨p2, 0, none⟩)) cw).putN p2 ⟨c, false, 2, q2, Bx.upd (Bx.upd (fun _ => R0) 0 bl) 1 br⟩).putL q2 (elT false) (Bx.upd (Bx.upd (zeroE false) 0 (.pointer (some ⟨p, 0, none⟩))) 1 (.pointer (some ⟨p', 0, none⟩)))).drewN nq)
      generalize (((w12.putT tr c cnt r (.pointer (some ⟨p2, 0, none⟩)) cw).putN p2 ⟨c, false, 2, q2, Bx.upd (Bx.upd (fun _ => R0) 0 bl) 1 br⟩).putL q2 (elT false) (Bx.upd (Bx.upd (zeroE false) 0 (.pointer (some ⟨p, 0, none⟩))) 1 (.pointer (some ⟨p', 0, none⟩)))) = w14 at c14 s14 n14 l14 ⊢
      have z1 := HSZ.out
      have z2 := HE2.out
      have z3 := HE3.out
      have z4 := HE4.out
      have A14 : Arg3 w14 x0 y0 x1 y1 b0 b1 b2 := by
        have h0 := World.block_lt_of_cell? w4 _ HA4.out.h00
        have h1 := World.block_lt_of_cell? w4 _ HA4.out.h10
        have h2 := World.block_lt_of_cell? w4 _ HA4.out.hr.1
        dsimp only at h0 h1 h2
        exact HA4.out.chg c14 (by omega) (by omega) (by omega)
      have ct : Chg (fun b => b = tr) w4 w14 := ⟨c14.os, c14.tape, c14.output, c14.size, fun k hk hn => c14.block k hk (by rintro (h | h | h); exact hn h; omega; omega)⟩
      have eN : (fun j => (mp An.v (liftX (bnd (cut (dfl h) r t').1, (⟨.pointer (some ⟨p, 0, none⟩), (cut (dfl h) r t').1, sl⟩ : An (h + 1))) (bnd (cut (dfl h) r t').2, ⟨.pointer (some ⟨p', 0, none⟩), (cut (dfl h) r t').2, sr⟩)) j).1) = Bx.upd (Bx.upd (fun _ => R0) 0 bl) 1 br := by
        rw [HL.out, HRR.out, HB1.out, HB2.out]
        funext j
        simp only [mp, liftX, Bx.upd]
        split
        · rfl
        · split <;> rfl
      have eL : fE (mp An.v (liftX (bnd (cut (dfl h) r t').1, (⟨.pointer (some ⟨p, 0, none⟩), (cut (dfl h) r t').1, sl⟩ : An (h + 1))) (bnd (cut (dfl h) r t').2, ⟨.pointer (some ⟨p', 0, none⟩), (cut (dfl h) r t').2, sr⟩))) = (Bx.upd (Bx.upd (zeroE false) 0 (.pointer (some ⟨p, 0, none⟩))) 1 (.pointer (some ⟨p', 0, none⟩))) := by
        funext j
        simp only [fE, mp, liftX, Bx.upd]
        split
        · rfl
        · split <;> rfl
      rw [← eN] at n14
      rw [← eL] at l14
      obtain ⟨Y, s', hOY, hsY⟩ := stage_lift HOL.out HOR.out hsep ct hpZ ntl ntr hp2 hq2 hpq2 n14 l14
      have gs' : ∀ b, s' b → s3 b ∨ w3.heap.size ≤ b := fun b hb => by
        have h4 := HC4.out.size
        rcases hsY b hb with h | h | h
        · exact .inl (hsl b h)
        · rcases HGR.out b h with h | h
          · exact .inl h
          · exact .inr h
        · exact .inr (by omega)
      have z7 := HT3.out.lt
      have z8 : w.heap.size ≤ w3.heap.size := HCC.out.size
      have gs'' : ∀ b, s' b → s b ∨ w.heap.size ≤ b := fun b hb => by
        rcases gs' b hb with h | h
        · exact HG.out b h
        · exact .inr (by omega)
      have nt' : ¬ s' tr := fun h => by
        rcases gs'' tr h with h | h
        · exact hps h
        · omega
      have sZ' : ∀ b, s' b → ¬ Z b := fun b hb hz => by
        rcases gs'' b hb with h | h
        · exact hsZ b h hz
        · have := hzlt b hz; omega
      have z9 := HCC4.out.size
      have z10 := ct.size
      have hM : ∀ d, TreeM c Z (w14.drewN d) tr ⟨cnt, r, some ⟨h + 1, lift h r t'⟩⟩ cw s' := fun d => ⟨⟨_, s14.drewN d, hOY.toEl.drewN d⟩, nt', hpZ, sZ', fun k hk => by have := hzlt k hk; show k < w14.heap.size; omega⟩
      have hroot : RootOk h r t := by
        rcases HTR.out with ⟨h0, h1, _⟩ | k
        · exfalso
          have := HPER.out.length_eq
          have h0' : (itsN h t) = [] := by unfold itsN; rw [h0]; rfl
          rw [h0'] at this
          have hb := (HWFT.out.bnd_bd (by have := HN64.out; omega)).ne
          rw [List.eq_nil_of_length_eq_zero this] at hb
          exact absurd rfl hb
        · exact k
      obtain ⟨l1, l2, l3, l4⟩ := lift_ok (r := r) HN64.out HWFT.out
      have hRI : RootIn ⟨x0, y0, x1, y1⟩ ⟨cnt, r, some ⟨h + 1, lift h r t'⟩⟩ := ⟨l1, .inr ⟨by show 1 ≤ (lift h r t').n; omega, hroot.2.1.perm ((l2.trans HPER.out).map _), l1⟩⟩
      have e := HIN.out
      simp only [if_true] at e
      obtain ⟨T2, hT2⟩ : ∃ T2, insT ⟨x0, y0, x1, y1⟩ x f cnt r (h + 1) (lift h r t') = some T2 := by
        cases hh : insT ⟨x0, y0, x1, y1⟩ x f cnt r (h + 1) (lift h r t') with
        | none => rw [hh] at e; simp at e
        | some T2 => exact ⟨T2, rfl⟩
      rw [hT2] at e
      simp only [Option.map_some, Option.some.injEq] at e
      have hI := fun d => IH _ T2 (w14.drewN d) s' (hM d) hRI hT2 c0 c1
      obtain ⟨a00, a01, a10, a11, _⟩ := A14
      have hcc : Chg (fun b => b = tr ∨ s b) w w14 := HCC4.out.trans (ct.mono fun b hb => .inl hb)
      have HE := Lib.hid e
      have HT2' := Lib.hid hT2
      have HGS := Lib.hid gs''
      have HC14 := Lib.hid hcc
      clear e hT2 gs' gs'' hcc hM hRI l1 l2 l3 l4 hroot hOY hsY eN eL c14 ct s14 n14 l14 z1 z2 z3 z4 z7 z8 z9 z10
      go_wp2_with fail
      refine (hI _).mono ?_
      rintro e w15 ⟨rfl, h3, p3, q3, ic5, t3, X5, s5, hroot, hT5, hO5, hG5, hC5⟩
      have hh3 : 1 ≤ h3 := by
        obtain ⟨qq, h4, h5⟩ := insT_h _ _ _ _ _ _ _ _ HT2'.out
        rw [hroot] at h4
        obtain rfl := Option.some.inj h4
        have : h + 1 ≤ h3 := h5
        omega
      have z8 : w.heap.size ≤ w14.heap.size := HC14.out.size
      have g5 : ∀ b, s5 b → s b ∨ w.heap.size ≤ b := fun b hb => by
        rcases hG5 b hb with h | h
        · exact HGS.out b h
        · have h : w14.heap.size ≤ b := h
          exact .inr (by omega)
      have hC5' : Chg (fun b => b = tr ∨ s' b) w14 w15 := (Chg.ex ((Mix.Ex.refl w14).drewN _)).trans hC5
      have nt5 : ¬ s5 tr := fun h => by
        rcases g5 tr h with h | h
        · exact hps h
        · omega
      have sZ5 : ∀ b, s5 b → ¬ Z b := fun b hb hz => by
        rcases g5 b hb with h | h
        · exact hsZ b h hz
        · have := hzlt b hz; omega
      have hSO : Calls Try.prog 84 #[.pointer (some ⟨p3, 0, none⟩)] w15 (fun e w' => e = .returned (.tuple #[]) ∧ ∃ X', OwnN c Z w' h3 p3 q3 ic5 ⟨t3.n, Bx.qs (keyK 0 false false) t3.n t3.E 0 t3.n⟩ X' s5 ∧ Chg s5 w15 w') := sortN_c hO5 sZ5 0
      have k6 := hT5.cell6
      have c15 : Chg (fun b => b = tr ∨ s b) w w15 := HC14.out.trans' hC5' fun b hb hb2 => by
        rcases hb2 with h | h
        · exact .inl h
        · rcases HGS.out b h with h | h
          · exact .inr h
          · omega
      have fin : ∀ (w16 : World) (X' : Nat → R × An h3), OwnN c Z w16 h3 p3 q3 ic5 ⟨t3.n, Bx.qs (keyK 0 false false) t3.n t3.E 0 t3.n⟩ X' s5 → Chg s5 w15 w16 → InsTPost c Z w tr s cw T' (.returned (.tuple #[])) w16 := by
        intro w16 X' hO6 hC6
        have e := HE.out
        subst e
        rw [← srtB_pos hh3] at hO6
        refine ⟨rfl, h3, p3, q3, ic5, srtB h3 t3, X', s5, ?_, hT5.chg hC6 nt5, hO6, g5, c15.trans' hC6 fun b hb hb2 => ?_⟩
        · dsimp only; rw [hroot]; rfl
        · rcases g5 b hb2 with h | h
          · exact .inr h
          · omega
      have FIN := Lib.hid fin
      clear fin hI hroot hT5 hO5 hG5 hC5 hC5' c15 g5
      go_wp2_with fail
      refine hSO.mono ?_
      rintro e w16 ⟨rfl, X', hO6, hC6⟩
      have HH := Lib.hid (FIN.out w16 X' hO6 hC6)
      clear hSO hO6 hC6 FIN
      go_wp2_with fail
      go_end0
      exact HH.out
/-- The contract of 'Insert'. -/
theorem insert_c (c : Int) (Z : Nat → Prop) (tr : Nat) (cw : Value) (sR : R) (x : Int) (hsR : sR.small ∧ sR.ok) (hIns : ∀ b o h, InsC c Z tr b o sR x h (ins sR x h) (fun _ => True)) :
    ∀ (f : Nat) (T T' : Tre) (w : World) (s : Nat → Prop), TreeM c Z w tr T cw s → RootIn sR T → insertT sR x f T = some T' → 0 ≤ T.cnt → T.cnt ≤ 1000000000 →
      Calls Try.prog 64 #[.pointer (some ⟨tr, 0, none⟩), .agg #[.int .i64 sR.x0, .int .i64 sR.y0], .agg #[.int .i64 sR.x1, .int .i64 sR.y1], .int .i64 x] w fun e w' => InsTPost c Z w tr s cw T' e w'
  | 0, T, T', w, s, _, _, hT, _, _ => by
    unfold insertT at hT
    cases hr : T.root <;> rw [hr] at hT <;> simp [insT] at hT
  | f + 1, T, T', w, s, hM, hR, hT, c0, c1 => insert_step c Z tr cw sR x hsR hIns f (insert_c c Z tr cw sR x hsR hIns f) T T' w s hM hR hT c0 c1
end Go.Proofs.Ytboeldlilkeihaa
