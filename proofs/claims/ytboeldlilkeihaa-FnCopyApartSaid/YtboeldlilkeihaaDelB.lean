/- The contract of 'nodeDelete' at a branch. -/
import Derived.Test.YtboeldlilkeihaaStageD
import Derived.Test.YtboeldlilkeihaaLst
import Derived.Test.YtboeldlilkeihaaOrd
set_option linter.unusedSimpArgs false
set_option linter.unusedVariables false
namespace Go.Proofs.Ytboeldlilkeihaa
open Go.RowKit Go.Bx
theorem delB_out {α : Type} {z : Nde α} {g : R → Nde α → Bool × Bool × R × Nde α} {s r : R} {t : Nde (Nde α)} {n k : Nat} (hk : k < n) (h : (t.E k).1.contains s = false) : delB z g s r t (n - k) k = delB z g s r t (n - (k + 1)) (k + 1) := by
  obtain ⟨m, hm⟩ : ∃ m, n - k = m + 1 := ⟨n - k - 1, by omega⟩
  rw [hm, show n - (k + 1) = m by omega, delB, if_neg (by rw [h]; simp)]
theorem delB_no {α : Type} {z : Nde α} {g : R → Nde α → Bool × Bool × R × Nde α} {s r : R} {t : Nde (Nde α)} {n k : Nat} (hk : k < n) (h : (g (t.E k).1 (t.E k).2).1 = false) : delB z g s r t (n - k) k = delB z g s r t (n - (k + 1)) (k + 1) := by
  obtain ⟨m, hm⟩ : ∃ m, n - k = m + 1 := ⟨n - k - 1, by omega⟩
  rw [hm, show n - (k + 1) = m by omega, delB]
  dsimp only
  rw [h]
  simp
/-- What comes of it where the k-th child had the item. -/
theorem delB_yes {α : Type} {z : Nde α} {g : R → Nde α → Bool × Bool × R × Nde α} {s r : R} {t : Nde (Nde α)} {n k : Nat} {y : Bool × Bool × R × Nde α} (hk : k < n) (hc : (t.E k).1.contains s = true) (h : g (t.E k).1 (t.E k).2 = y) (h1 : y.1 = true) : delB z g s r t (n - k) k =
      if y.2.2.2.n = 0 then (true, true, bnd (⟨t.n - 1, dropE z (Bx.upd t.E k (y.2.2.1, y.2.2.2)) k t.n⟩ : Nde (Nde α)), ⟨t.n - 1, dropE z (Bx.upd t.E k (y.2.2.1, y.2.2.2)) k t.n⟩)
      else if y.2.1 then (if y.2.2.1.equals (t.E k).1 then (true, false, r, ⟨t.n, ordR (Bx.upd t.E k (y.2.2.1, y.2.2.2)) t.n (t.n - k) k⟩) else (true, true, bnd (⟨t.n, Bx.upd t.E k (y.2.2.1, y.2.2.2)⟩ : Nde (Nde α)), ⟨t.n, ordR (Bx.upd t.E k (y.2.2.1, y.2.2.2)) t.n (t.n - k) k⟩))
      else (true, false, r, ⟨t.n, Bx.upd t.E k (y.2.2.1, y.2.2.2)⟩) := by
  obtain ⟨m, hm⟩ : ∃ m, n - k = m + 1 := ⟨n - k - 1, by omega⟩
  rw [hm, delB, if_pos hc]
  dsimp only
  rw [h, h1, if_pos rfl]
  rfl
/-- The branch at the head of the loop. -/
structure DelHead (c : Int) (Z : Nat → Prop) (w W : World) {h : Nat} (p q : Nat) (ic : Int) (nd : Nde (El (h + 1))) (X X' : Nat → R × An (h + 1)) (s s' : Nat → Prop) : Prop where
  own : OwnN c Z W (h + 1) p q ic nd X' s'
  box : ∀ j, (X' j).1 = (X j).1
  grew : Grew w s s'
  chg : Chg s w W
theorem DelCtx.step {c : Int} {Z : Nat → Prop} {w w' : World} {s s' S : Nat → Prop} {tr rb ro : Nat} {r : R} {b o : Nat} {sR : R} {rI : Nat} (k : DelCtx c Z w s tr rb ro r b o sR rI) (hc : Chg S w w') (hS : ∀ x, S x → s x) (hg : Grew w s s') : DelCtx c Z w' s' tr rb ro r b o sR rI := by
  have hb := hc.block rb k.ins.hr.lt (fun h => k.ins.rs (hS _ h))
  have hz : ∀ o, w'.frozen? ⟨rb, o, none⟩ = w.frozen? ⟨rb, o, none⟩ := fun o => by unfold World.frozen?; rw [hb]
  obtain ⟨f0, f1, f2, f3⟩ := k.fr
  refine ⟨k.ins.step hc hS hg, ⟨(hz _).trans f0, (hz _).trans f1, (hz _).trans f2, (hz _).trans f3⟩, k.rbZ, k.bb, k.nil.chg hc (fun h => k.rs (hS _ h)), fun h => ?_, k.rt, k.rb_, k.rb', k.rZ⟩
  rcases hg _ h with h | h
  · exact k.rs h
  · have := k.nil.lt; omega
theorem DelCtx.child {c : Int} {Z : Nat → Prop} {w : World} {h p q : Nat} {ic : Int} {t : Nde (El h)} {X : Nat → R × An h} {s : Nat → Prop} {tr rb ro : Nat} {r : R} {b o : Nat} {sR : R} {rI : Nat} (k : DelCtx c Z w s tr rb ro r b o sR rI) (hO : OwnN c Z w h p q ic t X s) {i : Nat} (hi : i < t.n) :
    DelCtx c Z w (X i).2.s tr p (3 + i * 4) (X i).1 b o sR rI :=
  ⟨k.ins.child hO hi, ⟨hO.nx.nd.frz _, hO.nx.nd.frz _, hO.nx.nd.frz _, hO.nx.nd.frz _⟩, k.ins.sZ _ hO.ow.sp, fun h => k.ins.bs (h ▸ hO.ow.sp), k.nil, fun h => k.rs (hO.esub hi _ h).1, k.rt, fun h => k.rs (h ▸ hO.ow.sp), k.rb', k.rZ⟩
theorem DelCtx.drewN {c : Int} {Z : Nat → Prop} {w : World} {s : Nat → Prop} {tr rb ro : Nat} {r : R} {b o : Nat} {sR : R} {rI : Nat} (k : DelCtx c Z w s tr rb ro r b o sR rI) (m : Nat) : DelCtx c Z (w.drewN m) s tr rb ro r b o sR rI :=
  k.step (S := fun _ => False) (Chg.ex ((Mix.Ex.refl w).drewN m)) (fun _ h => h.elim) (Grew.refl _ _)
set_option maxRecDepth 100000 in
set_option maxHeartbeats 12800000 in
theorem delBranch (c : Int) (Z : Nat → Prop) (tr b o : Nat) (sR : R) (x : Int) (rI h : Nat) (hh : h ≤ 1000000) (IHc : DelC c Z tr b o sR x rI h (del sR x h)) : DelC c Z tr b o sR x rI (h + 1) (del sR x (h + 1)) := by
  intro w p q ic X s rb ro r nd hO hC hW
  obtain ⟨nn, hn⟩ : ∃ nn, nd.n = nn := ⟨_, rfl⟩
  have hN : NodeAt w p ⟨ic, false, nd.n, q, fun i => (X i).1⟩ := hO.nx.nd
  rw [hn] at hN
  have h64 : nn ≤ 64 := hn ▸ hO.nx.n64
  have hc := hN.cell2
  dsimp only at hc
  have n0 : (0 : Int) ≤ (nn : Int) := by omega
  have n1 : (nn : Int) ≤ 64 := by omega
  have hH : DelHead c Z w w p q ic nd X X s s := ⟨hO, fun _ => rfl, Grew.refl _ _, Chg.refl _ _⟩
  have HN := Lib.hid hn
  have HO := Lib.hid hO
  have HC := Lib.hid hC
  have HW := Lib.hid hW
  have HH := Lib.hid hH
  clear hn hO hC hW hH
  go_enter Try.func97, Try.ntmps97
  go_wp2_with fail
  (refine Mix.wp_region_dr (by kernel_rfl) (by kernel_rfl) ?_; (repeat (go_big_quiet_step (fail))); refine wpQuiet_nil ?_; intro nq)
  go_wp2_with fail
  refine (leaf_c _ _ _ (hN.drewN _)).mono ?_
  rintro e w1 ⟨rfl, hww⟩
  subst hww
  go_wp2_with fail
  refine (children_c _ _ _ (hN.drewN _) rfl).mono ?_
  rintro e w1 ⟨rfl, hww⟩
  subst hww
  go_wp2_with fail
  clear hN hc
  go_loopw [18] (fun i wr => ∃ (kk : Nat) (X' : Nat → R × An (h + 1)) (s' : Nat → Prop) (W : World) (d : Nat), kk ≤ nn ∧ i = .int .i64 kk ∧ del sR x (h + 1) r nd = delB (dfl (h + 1)) (del sR x h) sR r nd (nn - kk) kk ∧ DelHead c Z w W p q ic nd X X' s s' ∧ wr = W.drewN d) (fun i _ => nn - (intOf i).toNat)
  case atStart => exact ⟨0, X, s, w, _, by omega, rfl, by show delB _ _ _ _ _ nd.n 0 = _; rw [HN.out]; rfl, HH.out, rfl⟩
  case round =>
    obtain ⟨kk, X', s', W, d, hk, rfl, hf, hH, rfl⟩ := hrel
    have HF := Lib.hid hf
    clear hf
    by_cases hlt : kk < nn
    case neg =>
      have hkn : kk = nn := by omega
      subst hkn
      have HD := Lib.hid hH
      clear hH
      go_wp2_with fail
      go_ret2
      rw [HF.out, Nat.sub_self, delB]
      have ctx := (HC.out).step HD.out.chg (fun _ h => h) HD.out.grew
      have hS : ∀ k, W.drewN k = (setRect W rb ro r).drewN k := fun k => by rw [setRect_self ctx.ins.hr]
      exact ⟨rfl, ic, X', s', W, _, hS _, HD.out.own, HD.out.grew, HD.out.chg.mono fun b hb => .inl hb, fun _ => ctx.nil, ctx.nil.at_ _ _ _ _⟩
    have own := hH.own
    have ctx := (HC.out).step hH.chg (fun _ h => h) hH.grew
    have hkb := rectAt_node own.nx.nd (i := kk) (by omega)
    dsimp only at hkb
    have hC1 := fun d => contains_c (W.drewN d) p (3 + kk * 4) b o (X' kk).1 sR (hkb.of_dr d) (ctx.ins.hs.of_dr d)
    have hEk : (nd.E kk).1 = (X' kk).1 := by rw [own.et kk]
    obtain ⟨l0, l1, l2, l3⟩ := id hkb
    have hpl := hkb.lt
    have HD := Lib.hid hH
    have HKB := Lib.hid hkb
    have HCT := Lib.hid ctx
    have HEK := Lib.hid hEk
    clear hH own ctx hkb hEk
    cases hcon : (X' kk).1.contains sR
    · rw [hcon] at hC1
      have HCON := Lib.hid hcon
      clear hcon l0 l1 l2 l3
      go_wp2_with fail
      refine (hC1 _).mono ?_
      rintro e w2 ⟨rfl, d1, rfl⟩
      clear hC1
      go_wp2_with fail
      go_roundw
      case measure => simp [intOf]; omega
      case rel => exact ⟨kk + 1, X', s', W, _, by omega, by go_num, by rw [HF.out]; exact delB_out hlt (by rw [HEK.out]; exact HCON.out), HD.out, rfl⟩
    rw [hcon] at hC1
    have HCON := Lib.hid hcon
    clear hcon
    go_wp2_with fail
    refine (hC1 _).mono ?_
    rintro e w2 ⟨rfl, d1, rfl⟩
    clear hC1
    go_upto_region 25 with (fail)
    clear l0 l1 l2 l3
    have hx1 := (Mix.Ex.refl W).alloc (.cells #[.int .i64 (X' kk).1.x0, .int .i64 (X' kk).1.y0, .int .i64 (X' kk).1.x1, .int .i64 (X' kk).1.y1] 91)
    obtain ⟨B, hB⟩ : ∃ B, W.heap.size = B := ⟨_, rfl⟩
    have hcr := rectAt_alloc W (X' kk).1 91 hB
    have hsz1 : (W.alloc (.cells #[.int .i64 (X' kk).1.x0, .int .i64 (X' kk).1.y0, .int .i64 (X' kk).1.x1, .int .i64 (X' kk).1.y1] 91)).heap.size = B + 1 := by simp [hB]
    rw [hB]
    generalize (W.alloc (.cells #[.int .i64 (X' kk).1.x0, .int .i64 (X' kk).1.y0, .int .i64 (X' kk).1.x1, .int .i64 (X' kk).1.y1] 91)) = W1 at hx1 hcr hsz1 ⊢
    have hik : kk < nd.n := by have := HN.out; omega
    have hIi : kk < 64 := by omega
    have i64 : (kk : Int) < 64 := by omega
    have i0 : (0 : Int) ≤ kk := by omega
    have own0 := HD.out.own
    have hcw1 := Chg.ex (S := fun _ : Nat => False) hx1
    have own := own0.frame (fun _ h => h.elim) hcw1 (fun _ h => h.elim)
    have ctx := HCT.out.step hcw1 (fun _ h => h.elim) (Grew.refl _ _)
    have hL : ListAt W1 q (elT false) (fE (mp An.v X')) := own.nx.ls
    have hCOW := fun m => cow_c c Z (W1.drewN m) tr q kk h (X' kk).2.v (X' kk).2.t (X' kk).2.s ctx.ins.t0 (hL.cell hIi) (hL.frz kk) ((own.entry hik).drewN m)
    have sC := fun m e w' hP => stage_cow (w := W1) (m := m) (e := e) (w' := w') own ctx.ins.sZ hik hP
    have hsB : ∀ y, s' y → y < B := fun y hy => by have := own0.ow.slt y hy; omega
    have HB := Lib.hid hB
    have HSB := Lib.hid hsB
    have HCR := Lib.hid hcr
    have HSC := Lib.hid sC
    have HX1 := Lib.hid hx1
    have HCTX := Lib.hid ctx
    have HSZ1 := Lib.hid hsz1
    clear hx1 hcr hsz1 hik own0 hcw1 own ctx hL sC hsB hB hpl
    go_wp2_with fail
    refine (hCOW _).mono ?_
    rintro e w2 hP
    obtain ⟨rfl, W2, pi, qi, ici, Xc, X2, s2, dW, rfl, hOc, hX2r, hX2v, hX2t, hO2, hg2, hch2⟩ := HSC.out _ _ _ hP
    clear hP hCOW HSC
    have hik : kk < nd.n := by have := HN.out; omega
    have ctx2 : DelCtx c Z W2 s2 tr rb ro r b o sR rI := HCTX.out.step hch2 (fun _ h => h) hg2
    have cctx := ctx2.child hO2 hik
    have hci := HW.out.2 _ (mem_lst.2 ⟨kk, hik, rfl⟩)
    rw [HD.out.own.et kk] at hci
    dsimp only at hci
    obtain ⟨c1, c2, c3⟩ := Wf_succ.1 hci
    rw [← hX2r kk] at c2
    have hyok := del_ok sR x h (X2 kk).1 (X' kk).2.t c2 c3
    have IH := fun m => IHc (W2.drewN m) pi qi ici Xc (X2 kk).2.s p (3 + kk * 4) (X2 kk).1 (X' kk).2.t (hOc.drewN m) (cctx.drewN m) c3
    have cW : W2.cell? ⟨q, kk, none⟩ = some (.pointer (some ⟨pi, 0, none⟩)) := by
      have := hO2.nx.ls.cell hIi
      rw [this]
      exact congrArg some hX2v
    have sD := fun m (t' : Nde (El h)) (ici : Int) (w2 : World) (Xc : Nat → R × An h) (sc : Nat → Prop) (r' : R) hOc hg hc => stage_del (W := W2) (w2 := w2) (m := m) (t' := t') (ici := ici) (Xc := Xc) (sc := sc) (pi := pi) (qi := qi) (rI := rI) (r' := r') hO2 ctx2.ins.sZ hik hX2v ctx2.rs ctx2.rZ hOc hg hc
    have HSD := Lib.hid sD
    have HO2 := Lib.hid hO2
    have HC2 := Lib.hid ctx2
    have HX2R := Lib.hid hX2r
    have HX2T := Lib.hid hX2t
    have HG2 := Lib.hid hg2
    have HCH2 := Lib.hid hch2
    obtain ⟨y, hyy⟩ : ∃ y, del sR x h (X2 kk).1 (X' kk).2.t = y := ⟨_, rfl⟩
    rw [hyy] at hyok IH
    have HYY := Lib.hid hyy
    have HYOK := Lib.hid hyok
    clear hik ctx2 cctx hci c1 c2 c3 sD hO2 hX2r hg2 hch2 hyy hyok hX2v hX2t hOc
    go_wp2_with fail
    (refine Mix.wp_region_drw 11 [5] (by kernel_rfl) (by kernel_rfl) ?_; simp only [List.take_succ_cons, List.take_zero, List.drop_succ_cons, List.drop_zero]; (repeat (go_big_quiet_step (fail))); refine wpQuiet_nil ?_)
    (refine Mix.wpTl_dr (fun n K hK => ?_); go_simp)
    refine (IH _).mono ?_
    rintro e w3 ⟨rfl, ic3, X3c, s3c, w5, d5, rfl, hO3c, hg3c, hc3c, hnil3, hre3⟩
    obtain ⟨X3, s3, hX3, hO3, hg3, hc3, hO3c', hcp3, hss3⟩ := HSD.out _ _ _ _ _ _ y.2.2.1 hO3c hg3c hc3c
    clear IH HSD
    refine ⟨_, rfl, _, Mix.Dr.refl _, hK _ _ trivial ?_⟩
    (clear hK K; simp only [Act.put, List.setIfInBounds_toArray, List.set_cons_zero, List.set_cons_succ, List.take_succ_cons, List.take_zero, List.drop_succ_cons, List.drop_zero])
    (repeat (go_big_quiet_step (fail)))
    (refine wpQuiet_nil ?_; intro nq)
    obtain ⟨rm, sh, ri, t'⟩ := y
    dsimp only at hO3 hc3 hO3c' hcp3 hX3 hO3c hnil3 ⊢
    have own2 := HO2.out
    have ctx2 := HC2.out
    have hik : kk < nd.n := by have := HN.out; omega
    have hsub2 := own2.esub hik
    have hpr : rI ≠ p := fun h => ctx2.rs (h ▸ own2.ow.sp)
    have hqr : rI ≠ q := fun h => ctx2.rs (h ▸ own2.ow.sq)
    have hre6 : ReAt (setRect w5 p (3 + kk * 4) ri) W2.heap.size rI (X2 kk).2.s s3c h := ReAt.chg hre3 hcp3 hpr (fun b hb => hb ▸ own2.ow.slt _ own2.ow.sp) (fun b hb h => (hsub2 _ (hb ▸ h)).2.1 rfl)
    have hnil6 : rm = false → ReNil (setRect w5 p (3 + kk * 4) ri) rI := fun h => (hnil3 h).chg hcp3 hpr
    have hbox : (X2 kk).1 = (X' kk).1 := HX2R.out kk
    have hpi : (X2 kk).2.s pi ∨ W2.heap.size ≤ pi := hg3c _ hO3c.ow.sp
    clear hO3c hg3c hc3c hnil3 hre3 hcp3
    generalize (setRect w5 p (3 + kk * 4) ri) = w6 at hO3 hc3 hO3c' hre6 hnil6 ⊢
    have z1 := HX1.out.below.size
    have z2 := HCH2.out.size
    have z3 := HD.out.chg.size
    have z4 := hc3.size
    -- what the steps so far may have changed
    have hch6 : Chg (fun b => s b ∨ b = rI) w w6 := by
      have k1 : Chg (fun b => s b ∨ b = rI) w W1 := (HD.out.chg.mono (fun b hb => .inl hb)).trans (Chg.ex HX1.out)
      have k2 := k1.trans' HCH2.out (fun b hb h => by
        rcases HD.out.grew b h with h | h
        · exact .inl h
        · omega)
      exact k2.trans' hc3 (fun b hb h => by
        rcases h with h | h
        · rcases HG2.out b h with h | h
          · rcases HD.out.grew b h with h | h
            · exact .inl h
            · omega
          · omega
        · exact .inr h)
    have hg6 : Grew w s s3 := fun b hb => by
      rcases hg3 b hb with h | h
      · rcases HG2.out b h with h | h
        · exact HD.out.grew b h
        · exact .inr (by omega)
      · exact .inr (by omega)
    have hre : ReAt w6 w.heap.size rI s s3 h := hre6.mono (Nat.le_refl _) (by omega) (fun b hb => by
      rcases HG2.out b (hsub2 b hb).1 with h | h
      · exact HD.out.grew b h
      · exact .inr (by omega)) (fun k hk h => by
      rcases hss3 k h with h | h
      · have := own2.ow.slt k h; omega
      · exact h)
    have hpi2 : s pi ∨ w.heap.size ≤ pi := by
      rcases hpi with h | h
      · rcases HG2.out _ (hsub2 _ h).1 with h | h
        · exact HD.out.grew _ h
        · exact .inr (by omega)
      · exact .inr (by omega)
    have HPI := Lib.hid hpi2
    have HO3 := Lib.hid hO3
    have HO3C := Lib.hid hO3c'
    have HX3 := Lib.hid hX3
    have HRE := Lib.hid hre
    have HG6 := Lib.hid hg6
    have HCH6 := Lib.hid hch6
    have HNIL6 := Lib.hid hnil6
    have HC3 := Lib.hid hc3
    have HBOX := Lib.hid hbox
    clear hO3 hO3c' hX3 hre hg6 hch6 hnil6 hc3 hbox hre6 own2 ctx2 hik hsub2 z1 z2 z3 z4 hg3 hss3 hpi hpi2
    cases rm with
    | false =>
      as_aux_lemma =>
      obtain ⟨hy, _⟩ := HYOK.out.no rfl
      simp only [Prod.mk.injEq, true_and] at hy
      obtain ⟨rfl, rfl, rfl⟩ := hy
      have hend : ∃ X' s' W d, DelHead c Z w W p q ic nd X X' s s' ∧ w6 = W.drewN d := by
        refine ⟨X3, s3, w6, 0, ⟨?_, ?_, HG6.out, ?_⟩, rfl⟩
        · have h3 := HO3.out
          have e : (⟨nd.n, Bx.upd nd.E kk ((X2 kk).1, (X' kk).2.t)⟩ : Nde (El (h + 1))) = nd := by
            rw [HBOX.out, ← HD.out.own.et kk, upd_self]
          rw [e] at h3
          exact h3
        · intro j
          rw [HX3.out]
          unfold Bx.upd
          split
          · rename_i e; rw [e, HBOX.out]; exact HD.out.box kk
          · rw [HX2R.out]; exact HD.out.box j
        · have hn6 := HNIL6.out rfl
          have hn0 := HC.out.nil
          have k := HCH6.out
          exact ⟨k.os, k.tape, k.output, k.size, fun b hb hs => by
            by_cases e : b = rI
            · subst e; exact (show w6.heap[b]? = _ from hn6).trans (show w.heap[b]? = _ from hn0).symm
            · exact k.block b hb (by rintro (h | h); exact hs h; exact e h)⟩
      have HEND := Lib.hid hend
      clear hend
      go_wp2_with fail
      go_roundw
      case measure => simp [intOf]; omega
      case rel =>
        obtain ⟨X4, s4, W4, d4, h4, h5⟩ := HEND.out
        refine ⟨kk + 1, X4, s4, W4, _, by omega, by go_num, ?_, h4, by rw [h5, World.drewN_drewN]⟩
        rw [HF.out]
        refine delB_no hlt ?_
        have e : (nd.E kk) = ((X2 kk).1, (X' kk).2.t) := by rw [HBOX.out]; exact HD.out.own.et kk
        rw [e]
        dsimp only
        rw [HYY.out]
    | true =>
      have hc3 := HC3.out
      have own3 := HO3.out
      have ctx2 := HC2.out
      have hik : kk < nd.n := by have := HN.out; omega
      have hn := HN.out
      have hrp : rb ≠ p := fun e => ctx2.ins.rs (e ▸ HO2.out.ow.sp)
      have hrq : rb ≠ q := fun e => ctx2.ins.rs (e ▸ HO2.out.ow.sq)
      have hpq := own3.nx.pq
      have hrI2 : rb ≠ rI := fun e => ctx2.rb_ e.symm
      have nb : ¬ (s2 rb ∨ rb = rI) := fun e => by rcases e with e | e; exact ctx2.ins.rs e; exact hrI2 e
      have hr6 := hc3.rect ctx2.ins.hr nb
      have hf6 : OpenAt w6 rb ro := by
        have hb := hc3.block rb ctx2.ins.hr.lt nb
        have hz : ∀ o, w6.frozen? ⟨rb, o, none⟩ = W2.frozen? ⟨rb, o, none⟩ := fun o => by unfold World.frozen?; rw [hb]
        obtain ⟨f0, f1, f2, f3⟩ := ctx2.fr
        exact ⟨(hz _).trans f0, (hz _).trans f1, (hz _).trans f2, (hz _).trans f3⟩
      have cv : (X3 kk).2.v = .pointer (some ⟨pi, 0, none⟩) := by rw [HX3.out, upd_same]
      have nN : NodeAt w6 p ⟨ic, false, nd.n, q, fun j => (X3 j).1⟩ := own3.nx.nd
      rw [hn] at nN
      have nL : ListAt w6 q (elT false) (fE (mp An.v X3)) := own3.nx.ls
      have cq : w6.cell? ⟨q, kk, none⟩ = some (.pointer (some ⟨pi, 0, none⟩)) := by rw [nL.cell hIi]; exact congrArg some cv
      have cpi := HO3C.out.nx.nd.cell2
      dsimp only at cpi
      have hE0 : nd.E kk = ((X2 kk).1, (X' kk).2.t) := by rw [HBOX.out]; exact HD.out.own.et kk
      have hB1 := delB_yes (z := dfl (h + 1)) (g := del sR x h) (s := sR) (r := r) (t := nd) (y := (true, sh, ri, t')) hlt (by rw [HEK.out]; exact HCON.out) (by rw [hE0]; exact HYY.out) rfl
      dsimp only at hB1
      rw [hn] at hB1
      have HB1 := Lib.hid (HF.out.trans hB1)
      have HR6 := Lib.hid hr6
      have HF6 := Lib.hid hf6
      have NN := Lib.hid nN
      have NL := Lib.hid nL
      clear hc3 own3 ctx2 hik hn nb hr6 hf6 cv nN hE0 hB1 nL
      by_cases e0 : t'.n = 0
      · have e1 : ((t'.n : Int) == 0) = true := by simp [e0]
        as_aux_lemma =>
        obtain ⟨v, L, hLL, hvI, hRow, hLe, hvs⟩ := HRE.out
        obtain ⟨i0, hi0, hz0, hz1, hz2⟩ := info_parts info_ptr
        have cI : w6.cell? ⟨rI, 0, none⟩ = some v := cell_of_cells hvI 0
        have HVI := Lib.hid hvI
        have HROW := Lib.hid hRow
        have HLE := Lib.hid hLe
        have HVS := Lib.hid hvs
        clear hvI hRow hLe hvs
        go_wp2_with fail
        refine wp_region_K (fun W => W.cell? ⟨rI, 0, none⟩ = some v ∧ W.cell? ⟨q, kk, none⟩ = some (.pointer (some ⟨pi, 0, none⟩))) 11 (by kernel_rfl) ?_
        change wpAnyK _ _ _ _ _ 12 (Array.replicate 12 false) _ _
        (refine wpAnyK_take (i := 0) (oi := ?_) (v := ?_) ?_ ?_ ?_ ?_ ?_ ?_ ?_ ?_ ?_; rotate_left 2; (focus (simp only [List.getElem?_toArray, List.getElem?_cons_zero, List.getElem?_cons_succ]; rfl)); (focus kernel_rfl); (focus kernel_rfl); (focus kernel_rfl); (focus kernel_rfl); (focus exact fun _ _ _ h => h); (focus (refine Or.inl ⟨by rfl, ?_⟩; intro W hW; (try dsimp only at hW); go_simp; try with_reducible rfl)); (focus exact ⟨cI, cq⟩); (try simp only [Act.put, List.setIfInBounds_toArray, List.set_cons_zero, List.set_cons_succ]))
        (refine wpAnyK_take (i := 1) (oi := ?_) (v := ?_) ?_ ?_ ?_ ?_ ?_ ?_ ?_ ?_ ?_; rotate_left 2; (focus (simp only [List.getElem?_toArray, List.getElem?_cons_zero, List.getElem?_cons_succ]; rfl)); (focus kernel_rfl); (focus kernel_rfl); (focus kernel_rfl); (focus kernel_rfl); (focus exact fun _ _ _ h => h); (focus (refine Or.inl ⟨by rfl, ?_⟩; intro W hW; (try dsimp only at hW); go_simp; try with_reducible rfl)); (focus exact ⟨cI, cq⟩); (try simp only [Act.put, List.setIfInBounds_toArray, List.set_cons_zero, List.set_cons_succ]))
        (refine wpAnyK_take (i := 2) (oi := ?_) (v := ?_) ?_ ?_ ?_ ?_ ?_ ?_ ?_ ?_ ?_; rotate_left 2; (focus (simp only [List.getElem?_toArray, List.getElem?_cons_zero, List.getElem?_cons_succ]; rfl)); (focus kernel_rfl); (focus kernel_rfl); (focus kernel_rfl); (focus kernel_rfl); (focus exact fun _ _ _ h => h); (focus (refine Or.inl ⟨by rfl, ?_⟩; intro W hW; (try dsimp only at hW); go_simp; try with_reducible rfl)); (focus exact ⟨cI, cq⟩); (try simp only [Act.put, List.setIfInBounds_toArray, List.set_cons_zero, List.set_cons_succ]))
        (refine wpAnyK_take (i := 3) (oi := ?_) (v := ?_) ?_ ?_ ?_ ?_ ?_ ?_ ?_ ?_ ?_; rotate_left 2; (focus (simp only [List.getElem?_toArray, List.getElem?_cons_zero, List.getElem?_cons_succ]; rfl)); (focus kernel_rfl); (focus kernel_rfl); (focus kernel_rfl); (focus kernel_rfl); (focus exact fun _ _ _ h => h); (focus (refine Or.inl ⟨by rfl, ?_⟩; intro W hW; (try dsimp only at hW); go_simp; try with_reducible rfl)); (focus exact ⟨cI, cq⟩); (try simp only [Act.put, List.setIfInBounds_toArray, List.set_cons_zero, List.set_cons_succ]))
        (refine wpAnyK_take (i := 4) (oi := ?_) (v := ?_) ?_ ?_ ?_ ?_ ?_ ?_ ?_ ?_ ?_; rotate_left 2; (focus (simp only [List.getElem?_toArray, List.getElem?_cons_zero, List.getElem?_cons_succ]; rfl)); (focus kernel_rfl); (focus kernel_rfl); (focus kernel_rfl); (focus kernel_rfl); (focus exact fun _ _ _ h => h); (focus (refine Or.inl ⟨by rfl, ?_⟩; intro W hW; (try dsimp only at hW); go_simp; try with_reducible rfl)); (focus exact ⟨cI, cq⟩); (try simp only [Act.put, List.setIfInBounds_toArray, List.set_cons_zero, List.set_cons_succ]))
        (refine wpAnyK_take (i := 5) (oi := ?_) (v := ?_) ?_ ?_ ?_ ?_ ?_ ?_ ?_ ?_ ?_; rotate_left 2; (focus (simp only [List.getElem?_toArray, List.getElem?_cons_zero, List.getElem?_cons_succ]; rfl)); (focus kernel_rfl); (focus kernel_rfl); (focus kernel_rfl); (focus kernel_rfl); (focus exact fun _ _ _ h => h); (focus (refine Or.inl ⟨by rfl, ?_⟩; intro W hW; (try dsimp only at hW); go_simp; try with_reducible rfl)); (focus exact ⟨cI, cq⟩); (try simp only [Act.put, List.setIfInBounds_toArray, List.set_cons_zero, List.set_cons_succ]))
        (refine wpAnyK_take (i := 6) (oi := ?_) (v := ?_) ?_ ?_ ?_ ?_ ?_ ?_ ?_ ?_ ?_; rotate_left 2; (focus (simp only [List.getElem?_toArray, List.getElem?_cons_zero, List.getElem?_cons_succ]; rfl)); (focus kernel_rfl); (focus kernel_rfl); (focus kernel_rfl); (focus kernel_rfl); (focus exact fun _ _ _ h => h); (focus (refine Or.inl ⟨by rfl, ?_⟩; intro W hW; (try dsimp only at hW); go_simp; try with_reducible rfl)); (focus exact ⟨cI, cq⟩); (try simp only [Act.put, List.setIfInBounds_toArray, List.set_cons_zero, List.set_cons_succ]))
        (refine wpAnyK_take (i := 7) (oi := ?_) (v := ?_) ?_ ?_ ?_ ?_ ?_ ?_ ?_ ?_ ?_; rotate_left 2; (focus (simp only [List.getElem?_toArray, List.getElem?_cons_zero, List.getElem?_cons_succ]; rfl)); (focus kernel_rfl); (focus kernel_rfl); (focus kernel_rfl); (focus kernel_rfl); (focus exact fun _ _ _ h => h); (focus (refine Or.inl ⟨by rfl, ?_⟩; intro W hW; (try dsimp only at hW); go_simp; try with_reducible rfl)); (focus exact ⟨cI, cq⟩); (try simp only [Act.put, List.setIfInBounds_toArray, List.set_cons_zero, List.set_cons_succ]))
        (refine wpAnyK_one (i := 8) (o := ?_) ?_ ?_ ?_ (fun K hK => ?_); rotate_left 1; (focus kernel_rfl); (focus (simp only [List.getElem?_toArray, List.getElem?_cons_zero, List.getElem?_cons_succ]; rfl)); (focus rfl))
        go_simp
        have hx8 := ((Mix.Ex.refl w6).alloc (.cells #[.pointer (some ⟨pi, 0, none⟩)] 92)).drewN (d5 + nq + 1)
        have hnew : ((w6.alloc (.cells #[.pointer (some ⟨pi, 0, none⟩)] 92)).drewN (d5 + nq + 1)).heap[w6.heap.size]? = some (.cells #[.pointer (some ⟨pi, 0, none⟩)] 92 (0, 0)) := heap_alloc_new w6 _
        generalize ((w6.alloc (.cells #[.pointer (some ⟨pi, 0, none⟩)] 92)).drewN (d5 + nq + 1)) = w8 at hx8 hnew ⊢
        have cI8 := hx8.cell cI
        have cq8 := hx8.cell cq
        refine hK _ _ (fun _ => ⟨cI8, cq8⟩) ?_
        clear hK K
        have hsz8 := hx8.below.size
        have hsz6 : w.heap.size ≤ w6.heap.size := HCH6.out.size
        have hlt6 := World.block_lt_of_cell? w6 _ cI
        have hltq := World.block_lt_of_cell? w6 _ cq
        dsimp only at hlt6 hltq
        have hrIw := HC.out.nil.lt
        have hqw := HO.out.ow.slt _ HO.out.ow.sq
        have hv1 : v.ownBlock ≠ some rI := fun e => by have := (HROW.out.lt _ e).1; omega
        have hv2 : v.ownBlock ≠ some q := fun e => by have := (HROW.out.lt _ e).1; omega
        (refine wpAnyK_one (i := 9) (o := ?_) ?_ ?_ ?_ (fun K hK => ?_); rotate_left 1; (focus kernel_rfl); (focus (simp only [List.getElem?_toArray, List.getElem?_cons_zero, List.getElem?_cons_succ]; rfl)); (focus rfl))
        refine wp_append_lies _ (.tmp 189) (.tmp 194) 105 (by rfl) w.heap.size 92 i0 _ 1 8 Try.underlying105 hi0 hz0 hz1 hz2 rfl (by omega) v L.length (L.flatMap ptrV) (by rfl) (HROW.out.ex hx8).own ⟨w6.heap.size, 0, none⟩ 1 1 [.pointer (some ⟨pi, 0, none⟩)] (by rfl) (by rfl) (World.news_of_block hnew) (by simp [Value.oneCell']) (by omega) (by unfold maxLen; omega) (by omega) (by omega) _ rfl ?_
        intro g cap w9 hown9 hgrow hat hlt9
        have cI9 : w9.cell? ⟨rI, 0, none⟩ = some v := (hgrow.cell_far ⟨rI, 0, none⟩ (by dsimp only; omega) (fun e => hv1 e.symm)).trans cI8
        have cq9 : w9.cell? ⟨q, kk, none⟩ = some (.pointer (some ⟨pi, 0, none⟩)) := (hgrow.cell_far ⟨q, kk, none⟩ (by dsimp only; omega) (fun e => hv2 e.symm)).trans cq8
        have fI9 : w9.frozen? ⟨rI, 0, none⟩ = false := (hgrow.frozen_far ⟨rI, 0, none⟩ (by dsimp only; omega) (fun e => hv1 e.symm)).trans (by rw [World.frozen?_of_block ((Chg.ex (S := fun _ => False) hx8).block rI hlt6 (fun h => h))]; exact frozen_of_cells HVI.out 0)
        refine hK _ _ (fun _ => ⟨cI9, cq9⟩) ?_
        clear hK K
        (refine wpAnyK_take (i := 10) (oi := ?_) (v := ?_) ?_ ?_ ?_ ?_ ?_ ?_ ?_ ?_ ?_; rotate_left 2; (focus (simp only [List.getElem?_toArray, List.getElem?_cons_zero, List.getElem?_cons_succ]; rfl)); (focus kernel_rfl); (focus kernel_rfl); (focus kernel_rfl); (focus kernel_rfl); (focus exact fun _ _ _ h => h); (focus (refine Or.inl ⟨by rfl, ?_⟩; intro W hW; (try dsimp only at hW); go_simp; try with_reducible rfl)); (focus exact ⟨cI9, cq9⟩); (try simp only [Act.put, List.setIfInBounds_toArray, List.set_cons_zero, List.set_cons_succ]))
        (refine wpAnyK_one (i := 11) (o := ?_) ?_ ?_ ?_ (fun K hK => ?_); rotate_left 1; (focus kernel_rfl); (focus (simp only [List.getElem?_toArray, List.getElem?_cons_zero, List.getElem?_cons_succ]; rfl)); (focus rfl))
        go_simp
        refine hK _ _ (fun h => absurd h (by decide)) ?_
        clear hK K
        refine wpAnyK_done (by kernel_rfl) ?_ _
        have hrs3 : ¬ s3 rI := fun h => by
          rcases HG6.out _ h with h | h
          · exact HC.out.rs h
          · omega
        obtain ⟨hre10, hO10, hc10⟩ := reAt_push (m := h) HO3.out hx8 hgrow hat hown9 HVI.out HROW.out HLE.out HVS.out HO3C.out.nx.nd (by show ((t'.n : Nat) : Int) = 0; rw [e0]; rfl) HPI.out hrs3 HC.out.rZ hrIw (fun k hk => HC.out.ins.zlt k hk) hsz6 hLL
        have hch10 : Chg (fun b => s b ∨ b = rI) w (w9.setCell ⟨rI, 0, none⟩ (.slice (some ⟨g, 0, none⟩) (L.length + 1) cap)) := HCH6.out.trans' hc10 fun b hb h => by
          rcases h with h | h
          · exact .inr h
          · have := (HROW.out.lt b h).1; omega
        have nb10 : ¬ (rb = rI ∨ v.ownBlock = some rb) := fun h => by
          rcases h with h | h
          · exact hrI2 h
          · have := (HROW.out.lt _ h).1
            have := HC.out.ins.hr.lt
            omega
        have hr10 := hc10.rect HR6.out nb10
        have hf10 : OpenAt (w9.setCell ⟨rI, 0, none⟩ (.slice (some ⟨g, 0, none⟩) (L.length + 1) cap)) rb ro := by
          have hb := hc10.block rb HR6.out.lt nb10
          have hz : ∀ o, (w9.setCell ⟨rI, 0, none⟩ (.slice (some ⟨g, 0, none⟩) (L.length + 1) cap)).frozen? ⟨rb, o, none⟩ = w6.frozen? ⟨rb, o, none⟩ := fun o => by unfold World.frozen?; rw [hb]
          obtain ⟨f0, f1, f2, f3⟩ := HF6.out
          exact ⟨(hz _).trans f0, (hz _).trans f1, (hz _).trans f2, (hz _).trans f3⟩
        generalize (w9.setCell ⟨rI, 0, none⟩ (.slice (some ⟨g, 0, none⟩) (L.length + 1) cap)) = w10 at hre10 hO10 hch10 hr10 hf10 ⊢
        have HO10 := Lib.hid hO10
        have HRE10 := Lib.hid hre10
        have HCH10 := Lib.hid hch10
        have HR10 := Lib.hid hr10
        have HF10 := Lib.hid hf10
        have hN : NodeAt w10 p ⟨ic, false, nd.n, q, fun j => (X3 j).1⟩ := hO10.nx.nd
        rw [HN.out] at hN
        have hL : ListAt w10 q (elT false) (fE (mp An.v X3)) := hO10.nx.ls
        have hf0 : Fit false (fE (mp An.v X3)) := hO10.nx.fit
        clear hre10 hO10 hch10 hr10 hf10 hc10 cI9 cq9 fI9 hgrow hat hlt9 hown9 cI8 cq8 hnew hx8 cI cq hsz8 hlt6 hltq hv1 hv2 HVI HROW HLE HVS hz0 hz1 hz2 hi0 hLL cpi
        as_aux_lemma =>
        have hc := hN.cell2
        dsimp only at hc
        have hqp := hpq.symm
        obtain ⟨k1, hk1⟩ : ∃ k1, kk + 1 = k1 := ⟨_, rfl⟩
        obtain ⟨m, hm⟩ : ∃ m, nn = m + 1 := ⟨nn - 1, by omega⟩
        have j1 : (kk : Int) + 1 = k1 := by omega
        have j2 : (nn : Int) - 1 = m := by omega
        have b0 : (0 : Int) ≤ kk := by omega
        have b1 : (kk : Int) ≤ nn := by omega
        have b3 : (k1 : Int) ≤ nn := by omega
        have b6 : (0 : Int) ≤ m := by omega
        have b7 : (m : Int) < 64 := by omega
        have b8 : m < 64 := by omega
        have hkm : Nat.min (nn - k1) (nn - kk) = nn - k1 := by exact Nat.min_eq_left (by omega)
        obtain ⟨d', a1, a2, d1', mv⟩ := slot_end2 p q kk k1 (nn - k1) (by omega) (by omega)
        have d2 : kk + (nn - k1) ≤ 64 := by omega
        have MV := Lib.hid (mv (fun j => (X3 j).1))
        have MW := Lib.hid (mv (fE (mp An.v X3)))
        have HK1 := Lib.hid hk1
        have HM := Lib.hid hm
        clear hk1 hm mv
        go_wp2_with fail
        (refine Mix.wp_region_drw 19 [0] (by kernel_rfl) (by kernel_rfl) ?_; simp only [List.take_succ_cons, List.take_zero, List.drop_succ_cons, List.drop_zero]; (repeat (go_big_quiet_step (fail))); refine wpQuiet_nil ?_)
        (try simp only [World.drewN_drewN])
        have hd0 : w10 = w10.drewN 0 := rfl
        rw [hd0]
        refine Mix.wpTl_copy (.tmp 205) (.tmp 215) 129 129 rfl (.slice (some ⟨p, 3 + kk * 4, none⟩) (nn - kk) (64 - kk)) (.slice (some ⟨p, 3 + d' * 4, none⟩) (nn - k1) (64 - k1)) _ _ rfl rfl (copyR_at hN _ kk _ _ d' _ _ (nn - k1) hkm d2 d1') trivial ?_
        clear hd0
        (simp only [Act.put, List.setIfInBounds_toArray, List.set_cons_zero, List.set_cons_succ, List.take_succ_cons, List.take_zero, List.drop_succ_cons, List.drop_zero])
        (refine wpQuiet_nil ?_; intro nq)
        rw [MV.out]
        have hN1 : NodeAt (w10.putN p ⟨ic, false, nn, q, mv2 (fun j => (X3 j).1) (fun j => (X3 j).1) kk k1 (nn - k1)⟩) p _ := NodeAt.put _ hN.lt
        have hL1 := hL.putN_other (M := ⟨ic, false, nn, q, mv2 (fun j => (X3 j).1) (fun j => (X3 j).1) kk k1 (nn - k1)⟩) hpq
        have hC1 : Chg (fun k => k = p ∨ k = q) w10 (w10.putN p ⟨ic, false, nn, q, mv2 (fun j => (X3 j).1) (fun j => (X3 j).1) kk k1 (nn - k1)⟩) := (Chg.refl _ _).putN (.inl (.inl rfl)) _
        clear hN hL hc
        generalize (w10.putN p ⟨ic, false, nn, q, mv2 (fun j => (X3 j).1) (fun j => (X3 j).1) kk k1 (nn - k1)⟩) = w11 at hN1 hL1 hC1 ⊢
        have hc := hN1.cell2
        dsimp only at hc
        go_wp2_with fail
        (refine Mix.wp_region_drw 15 [0] (by kernel_rfl) (by kernel_rfl) ?_; simp only [List.take_succ_cons, List.take_zero, List.drop_succ_cons, List.drop_zero]; (repeat (go_big_quiet_step (fail))); refine wpQuiet_nil ?_)
        (try simp only [World.drewN_drewN])
        refine Mix.wpTl_copy (.tmp 223) (.tmp 231) 105 105 rfl (.slice (some ⟨q, kk, none⟩) (nn - kk) (64 - kk)) (.slice (some ⟨q, d', none⟩) (nn - k1) (64 - k1)) _ _ rfl rfl (copyL_at (b := false) hL1 hf0 _ kk _ _ d' _ _ (nn - k1) hkm d2 d1') trivial ?_
        (simp only [Act.put, List.setIfInBounds_toArray, List.set_cons_zero, List.set_cons_succ, List.take_succ_cons, List.take_zero, List.drop_succ_cons, List.drop_zero])
        (refine wpQuiet_nil ?_; intro nq)
        rw [MW.out]
        obtain ⟨rc, hrc⟩ : ∃ rc, shiftL (fun j => (X3 j).1) kk nn = rc := ⟨_, rfl⟩
        obtain ⟨f, hff⟩ : ∃ f, shiftL (fE (mp An.v X3)) kk nn = f := ⟨_, rfl⟩
        have e1 : mv2 (fun j => (X3 j).1) (fun j => (X3 j).1) kk k1 (nn - k1) = rc := by rw [← hrc, ← HK1.out, mv2_down]
        have e2 : mv2 (fE (mp An.v X3)) (fE (mp An.v X3)) kk k1 (nn - k1) = f := by rw [← hff, ← HK1.out, mv2_down]
        have hN2 := hN1.putL_other (T := elT false) (f := mv2 (fE (mp An.v X3)) (fE (mp An.v X3)) kk k1 (nn - k1)) hqp
        have hL2 : ListAt (w11.putL q (elT false) (mv2 (fE (mp An.v X3)) (fE (mp An.v X3)) kk k1 (nn - k1))) q (elT false) _ := ListAt.put _ _ hL1.lt
        have hC2 := hC1.putL (q := q) (.inl (.inr rfl)) (elT false) (mv2 (fE (mp An.v X3)) (fE (mp An.v X3)) kk k1 (nn - k1))
        rw [e1] at hN2
        rw [e2] at hN2 hL2 hC2 ⊢
        clear hN1 hL1 hC1 e1 e2 hc
        generalize (w11.putL q (elT false) f) = w12 at hN2 hL2 hC2 ⊢
        have HRC := Lib.hid hrc
        have HFF := Lib.hid hff
        obtain ⟨w13, rfl, hp13, hq13, -, -, -⟩ := hN2.opn3 hL2
        have HC2' := Lib.hid hC2
        clear hN2 hL2 hC2 hrc hff
        go_upto_region 36 with (fail)
        (try rw [setCnt_mk])
        have n14 : NodeAt ((w13.putN p ⟨ic, false, (m : Nat), q, rc⟩).putL q (elT false) (Bx.upd f m (.pointer none))) p ⟨ic, false, (m : Nat), q, rc⟩ := (NodeAt.put _ hp13).putL_other hqp
        have l14 : ListAt ((w13.putN p ⟨ic, false, (m : Nat), q, rc⟩).putL q (elT false) (Bx.upd f m (.pointer none))) q (elT false) (Bx.upd f m (.pointer none)) := ListAt.put _ _ (by simp; exact hq13)
        have c14 := (HC2'.out.putN (p := p) (.inl (.inl rfl)) ⟨ic, false, (m : Nat), q, rc⟩).putL (q := q) (.inl (.inr rfl)) (elT false) (Bx.upd f m (.pointer none))
        rw [World.reput _ hqp] at c14
        clear HC2'
        generalize ((w13.putN p ⟨ic, false, (m : Nat), q, rc⟩).putL q (elT false) (Bx.upd f m (.pointer none))) = w14 at n14 l14 c14 ⊢
        have hm := HM.out
        have en : nn - 1 = m := by omega
        have hnd := HN.out
        have hsZ3 : ∀ b, s3 b → ¬ Z b := fun b hb hz => by
          rcases HG6.out b hb with h | h
          · exact HC.out.ins.sZ b h hz
          · have := HC.out.ins.zlt b hz; omega
        have eF : fE (mp An.v (dropE (zAn (h + 1)) X3 kk nn)) = Bx.upd f m (.pointer none) := by
          rw [drop_snd, HFF.out, en]; rfl
        have n14' : NodeAt w14 p ⟨ic, leafB (h + 1), (nd.n - 1 : Nat), q, fun j => (dropE (zAn (h + 1)) X3 kk nd.n j).1⟩ := by rw [hnd, drop_fst, HRC.out, en]; exact n14
        have l14' : ListAt w14 q (elT (leafB (h + 1))) (fE (mp An.v (dropE (zAn (h + 1)) X3 kk nd.n))) := by rw [hnd, eF]; exact l14
        have f14' : Fit (leafB (h + 1)) (fE (mp An.v (dropE (zAn (h + 1)) X3 kk nd.n))) := by
          rw [hnd, eF, ← HFF.out]
          obtain ⟨G, hG⟩ := hf0
          rw [hG]
          exact ⟨Bx.upd (shiftL G kk nn) m none, by funext j; simp only [Bx.upd, shiftL]; split; rfl; split <;> rfl⟩
        obtain ⟨own14, chg14⟩ := HO10.out.drop (by show kk < nd.n; omega) hsZ3 c14 n14' l14' f14'
        dsimp only at own14
        rw [hnd] at own14
        have nbq : ¬ (rb = p ∨ rb = q) := by rintro (h | h); exact hrp h; exact hrq h
        have hr14 := c14.rect HR10.out nbq
        have hf14 : OpenAt w14 rb ro := by
          have hb := c14.block rb HR10.out.lt nbq
          have hz : ∀ o, w14.frozen? ⟨rb, o, none⟩ = w10.frozen? ⟨rb, o, none⟩ := fun o => by unfold World.frozen?; rw [hb]
          obtain ⟨f0, f1, f2, f3⟩ := HF10.out
          exact ⟨(hz _).trans f0, (hz _).trans f1, (hz _).trans f2, (hz _).trans f3⟩
        have hpw := HO.out.ow.slt _ HO.out.ow.sp
        have hqw' := HO.out.ow.slt _ HO.out.ow.sq
        -- what else was there
        have hre14 : ReAt w14 w.heap.size rI s s3 (h + 1) := by
          obtain ⟨v', L', g0, g1, g2, g3, g4⟩ := HRE10.out
          refine ⟨v', L', g0, ?_, g2.of_block fun k hk => c14.block k (g2.lt k hk).2 (by have := (g2.lt k hk).1; rintro (e | e) <;> omega), fun a ha => ?_, g4⟩
          · rw [c14.block rI (Array.getElem?_eq_some_iff.1 g1).1 (by rintro (e | e); exact hpr e; exact hqr e)]; exact g1
          · obtain ⟨M, m1, m2, m3⟩ := g3 a ha
            refine ⟨M, c14.node m1 ?_, m2, m3⟩
            rintro (e | e)
            · subst e
              have hM := m1
              have hN' := HO10.out.nx.nd
              unfold NodeAt at hM hN'
              rw [hM] at hN'
              simp only [Option.some.injEq, Obj.cells.injEq, and_true] at hN'
              have h2 := congrArg (fun x : Array Value => x[2]?) hN'
              simp only [ndCells_get _ 2 (by omega)] at h2
              simp only [ndCell, Option.some.injEq, Value.int.injEq, true_and] at h2
              omega
            · subst e
              exact m1.ne_of_cells HO10.out.nx.ls (by show elT false ≠ _; decide) rfl
        have hch14 : Chg (fun b => s b ∨ b = rI) w w14 := HCH10.out.trans' c14 fun b hb h => by
          rcases h with h | h
          · subst h; exact .inl HO.out.ow.sp
          · subst h; exact .inl HO.out.ow.sq
        have kn : NodeAt w14 p ⟨ic, false, (m : Nat), q, fun j => (dropE (zAn (h + 1)) X3 kk nn j).1⟩ := by rw [drop_fst, HRC.out]; exact n14
        have hRR := fun d => noderect_c (w14.drewN d) p _ m (kn.drewN d) rfl (by omega)
        dsimp only at hRR
        have HOW := Lib.hid own14
        have HRE14 := Lib.hid hre14
        have HCH14 := Lib.hid hch14
        have HR14 := Lib.hid hr14
        have HF14 := Lib.hid hf14
        clear hm hnd hsZ3 eF n14' l14' f14' own14 chg14 hr14 hf14 hre14 hch14 kn n14 l14 c14 hf0
        go_wp2_with fail
        refine (hRR _).mono ?_
        rintro e w15 ⟨⟨br, hbr, rfl⟩, hx15⟩
        have hx15' : Mix.Ex w14 w15 := ((Mix.Ex.refl w14).drewN _).trans hx15
        have hr15 := HR14.out.of_ex hx15'
        have hf15 := HF14.out.of_ex HR14.out.lt hx15'
        obtain ⟨g0, g1, g2, g3⟩ := id hr15
        obtain ⟨f0, f1, f2, f3⟩ := id hf15
        have HBR := Lib.hid hbr
        have HX15 := Lib.hid hx15'
        clear hRR hx15 hx15' hr15 hf15 hbr
        go_wp2_with fail
        go_ret2
        rw [HB1.out, if_pos e0]
        have ebr : bnd (⟨nn - 1, dropE (dfl (h + 1)) (Bx.upd nd.E kk (ri, t')) kk nn⟩ : Nde (Nde (El h))) = br := by
          rw [HBR.out]
          unfold bnd
          have : (fun i => (dropE (dfl (h + 1)) (Bx.upd nd.E kk (ri, t')) kk nn i).1) = fun j => (dropE (zAn (h + 1)) X3 kk nn j).1 := by
            rw [drop_fst, drop_fst]
            have h3 := HO3.out.tE
            dsimp only at h3
            rw [h3]; rfl
          dsimp only
          rw [this, en]
        have hcc := Chg.ex (S := fun _ : Nat => False) HX15.out
        refine ⟨rfl, ic, _, s3, w15, 0, ?_, HOW.out.frame (fun b hb => hb.elim) hcc (fun b hb => hb.elim), HG6.out, HCH14.out.trans (Chg.ex HX15.out), nofun, ReAt.chg HRE14.out hcc (fun h => h) (fun b h => h.elim) (fun b h => h.elim)⟩
        show _ = (setRect w15 rb ro (bnd _)).drewN 0
        rw [ebr]
        rfl
      · have e1 : ((t'.n : Int) == 0) = false := by simp; omega
        have hrem : ReAt w6 w.heap.size rI s s3 (h + 1) := HRE.out.mono (by omega) (Nat.le_refl _) (fun b hb => .inl hb) (fun k _ hk => hk)
        have HREM := Lib.hid hrem
        have own6 := HO3.out
        rw [HN.out] at own6
        have OWN6 := Lib.hid own6
        clear hrem own6
        cases sh with
        | false =>
          as_aux_lemma =>
          go_wp2_with fail
          go_ret2
          rw [HB1.out, if_neg e0, if_neg (by simp)]
          have hS : ∀ k, w6.drewN k = (setRect w6 rb ro r).drewN k := fun k => by rw [setRect_self HR6.out]
          exact ⟨rfl, ic, X3, s3, w6, _, hS _, OWN6.out, HG6.out, HCH6.out, nofun, HREM.out⟩
        | true =>
          as_aux_lemma =>
          have hx3k : (X3 kk).1 = ri := by rw [HX3.out, upd_same]
          have hri := rectAt_node NN.out hIi
          dsimp only at hri
          rw [hx3k] at hri
          have hrIw := HC.out.nil.lt
          have hbw : w.heap.size ≤ B := by have := HD.out.chg.size; have := HB.out; omega
          have hcB : RectAt w6 B 0 (X' kk).1 := by
            have k1 := HCH2.out.rect HCR.out (fun h => by have := HSB.out _ h; omega)
            refine HC3.out.rect k1 (fun h => ?_)
            rcases h with h | h
            · rcases HG2.out _ h with h | h
              · have := HSB.out _ h; omega
              · have := HSZ1.out; omega
            · omega
          have hEQ := fun d => equals_c (w6.drewN d) p (3 + kk * 4) B 0 ri (X' kk).1 (hri.of_dr d) (hcB.of_dr d)
          have hlb : leafB (h + 1) = false := rfl
          have own6 := OWN6.out
          have hfit := own6.nx.fit
          have hsZ3 : ∀ b, s3 b → ¬ Z b := fun b hb hz => by
            rcases HG6.out b hb with h | h
            · exact HC.out.ins.sZ b h hz
            · have := HC.out.ins.zlt b hz; omega
          have hek := HEK.out
          cases heq : ri.equals (X' kk).1 with
          | true =>
            rw [heq] at hEQ
            have hOR := fun d => ordR_c w6 p ⟨ic, false, nn, q, fun j => (X3 j).1⟩ NN.out.lt NL.out.lt hpq nn (mp An.v X3) d (nn - kk) kk rfl (by omega) h64 hlt (by omega) hfit
            have hself : w6.putE p ⟨ic, false, nn, q, fun j => (X3 j).1⟩ (elT false) (mp An.v X3) = w6 := putE_self NN.out NL.out
            dsimp only at hOR
            rw [hself] at hOR
            have hN7 := NodeAt.putE w6 p ⟨ic, false, nn, q, fun j => (X3 j).1⟩ (elT false) (ordR (mp An.v X3) nn (nn - kk) kk) NN.out.lt hpq.symm
            have hL7 := ListAt.putE w6 p ⟨ic, false, nn, q, fun j => (X3 j).1⟩ (elT false) (ordR (mp An.v X3) nn (nn - kk) kk) NL.out.lt
            have hC7 := (Chg.refl (fun b => b = p ∨ b = q) w6).putE (p := p) (N := ⟨ic, false, nn, q, fun j => (X3 j).1⟩) (.inl (.inl rfl)) (.inl (.inr rfl)) (elT false) (ordR (mp An.v X3) nn (nn - kk) kk)
            have hf7 : Fit false (fE (ordR (mp An.v X3) nn (nn - kk) kk)) := Fit.ordR hfit nn (nn - kk) kk
            obtain ⟨Y, hOY, hCY⟩ := stage_right (f := nn - kk) (i := kk) own6 hsZ3 hC7 hN7 hL7 hf7
            have hre7 := reAt_pq HREM.out hC7 NN.out (by dsimp only; omega) NL.out (by show elT false ≠ _; decide) (HO.out.ow.slt _ HO.out.ow.sp) (HO.out.ow.slt _ HO.out.ow.sq) hpr hqr
            have hch7 : Chg (fun b => s b ∨ b = rI) w (w6.putE p ⟨ic, false, nn, q, fun j => (X3 j).1⟩ (elT false) (ordR (mp An.v X3) nn (nn - kk) kk)) := HCH6.out.trans' hC7 fun b hb h => by
              rcases h with h | h
              · subst h; exact .inl HO.out.ow.sp
              · subst h; exact .inl HO.out.ow.sq
            have hr7 := hC7.rect HR6.out (by rintro (h | h); exact hrp h; exact hrq h)
            generalize (w6.putE p ⟨ic, false, nn, q, fun j => (X3 j).1⟩ (elT false) (ordR (mp An.v X3) nn (nn - kk) kk)) = w7 at hOR hOY hre7 hch7 hr7
            have HQ := Lib.hid heq
            have HOY := Lib.hid hOY
            have HRE7 := Lib.hid hre7
            have HCH7 := Lib.hid hch7
            have HR7 := Lib.hid hr7
            clear heq hself hN7 hL7 hC7 hf7 hOY hCY hre7 hch7 hr7 own6 hfit hsZ3 hri hcB
            go_wp2_with fail
            refine (hEQ _).mono ?_
            rintro e w8 ⟨rfl, d8, rfl⟩
            clear hEQ
            go_wp2_with fail
            refine (hOR _).mono ?_
            rintro e w8 ⟨⟨ko, rfl⟩, d9, rfl⟩
            clear hOR
            go_wp2_with fail
            go_ret2
            rw [HB1.out, if_neg e0, if_pos trivial, hek, HQ.out, if_pos rfl]
            have hS : ∀ k, w7.drewN k = (setRect w7 rb ro r).drewN k := fun k => by rw [setRect_self HR7.out]
            exact ⟨rfl, ic, Y, s3, w7, _, hS _, HOY.out, HG6.out, HCH7.out, nofun, HRE7.out⟩
          | false =>
            rw [heq] at hEQ
            have hRR := fun d => noderect_c (w6.drewN d) p _ nn (NN.out.drewN d) rfl h64
            dsimp only at hRR
            have HQ := Lib.hid heq
            have HFIT := Lib.hid hfit
            have HSZ3 := Lib.hid hsZ3
            clear heq own6 hfit hsZ3 hri hcB
            go_wp2_with fail
            refine (hEQ _).mono ?_
            rintro e w8 ⟨rfl, d8, rfl⟩
            clear hEQ
            go_wp2_with fail
            refine (hRR _).mono ?_
            rintro e w7 ⟨⟨br, hbr, rfl⟩, hx7⟩
            have hx7' : Mix.Ex w6 w7 := ((Mix.Ex.refl w6).drewN _).trans hx7
            have hr7 := HR6.out.of_ex hx7'
            have hf7' := HF6.out.of_ex HR6.out.lt hx7'
            have hn7 := NN.out.ex hx7'
            have hl7 := NL.out.ex hx7'
            have hcc := Chg.ex (S := fun _ : Nat => False) hx7'
            have own7 := OWN6.out.frame (fun _ h => h.elim) hcc (fun _ h => h.elim)
            have hN7 := NodeAt.putE w7 p ⟨ic, false, nn, q, fun j => (X3 j).1⟩ (elT false) (ordR (mp An.v X3) nn (nn - kk) kk) hn7.lt hpq.symm
            have hL7 := ListAt.putE w7 p ⟨ic, false, nn, q, fun j => (X3 j).1⟩ (elT false) (ordR (mp An.v X3) nn (nn - kk) kk) hl7.lt
            have hC7 := (Chg.refl (fun b => b = p ∨ b = q) w7).putE (p := p) (N := ⟨ic, false, nn, q, fun j => (X3 j).1⟩) (.inl (.inl rfl)) (.inl (.inr rfl)) (elT false) (ordR (mp An.v X3) nn (nn - kk) kk)
            have hf7 : Fit false (fE (ordR (mp An.v X3) nn (nn - kk) kk)) := Fit.ordR HFIT.out nn (nn - kk) kk
            obtain ⟨Y, hOY, hCY⟩ := stage_right (f := nn - kk) (i := kk) own7 HSZ3.out hC7 hN7 hL7 hf7
            have hre7 := reAt_pq (ReAt.chg HREM.out hcc (fun h => h) (fun b h => h.elim) (fun b h => h.elim)) hC7 hn7 (by dsimp only; omega) hl7 (by show elT false ≠ _; decide) (HO.out.ow.slt _ HO.out.ow.sp) (HO.out.ow.slt _ HO.out.ow.sq) hpr hqr
            have hch7 : Chg (fun b => s b ∨ b = rI) w (w7.putE p ⟨ic, false, nn, q, fun j => (X3 j).1⟩ (elT false) (ordR (mp An.v X3) nn (nn - kk) kk)) := (HCH6.out.trans (Chg.ex hx7')).trans' hC7 fun b hb h => by
              rcases h with h | h
              · subst h; exact .inl HO.out.ow.sp
              · subst h; exact .inl HO.out.ow.sq
            -- behind the store of the box
            have hcr : Chg (fun b => b = rb) w7 (setRect w7 rb ro br) := (Chg.refl (fun b => b = rb) w7).setR (.inl rfl) br
            have hn8 := hcr.node hn7 (fun h => hrp h.symm)
            have hl8 := hcr.list hl7 (fun h => hrq h.symm)
            have hOR := fun d => ordR_c (setRect w7 rb ro br) p ⟨ic, false, nn, q, fun j => (X3 j).1⟩ hn8.lt hl8.lt hpq nn (mp An.v X3) d (nn - kk) kk rfl (by omega) h64 hlt (by omega) HFIT.out
            have hself : (setRect w7 rb ro br).putE p ⟨ic, false, nn, q, fun j => (X3 j).1⟩ (elT false) (mp An.v X3) = setRect w7 rb ro br := putE_self hn8 hl8
            dsimp only at hOR
            rw [hself] at hOR
            have hcomm := fun E => setRect_putE w7 (o := ro) (T := elT false) (E := E) (N := ⟨ic, false, nn, q, fun j => (X3 j).1⟩) br hrp hrq
            simp only [← hcomm] at hOR
            obtain ⟨g0, g1, g2, g3⟩ := id hr7
            obtain ⟨f0, f1, f2, f3⟩ := id hf7'
            have HOY := Lib.hid hOY
            have HRE7 := Lib.hid hre7
            have HCH7 := Lib.hid hch7
            have HBR := Lib.hid hbr
            have HFOLD := Lib.hid (show ∀ d, ((((w7.setCell ⟨rb, ro, none⟩ (.int .i64 br.x0)).setCell ⟨rb, ro + 1, none⟩ (.int .i64 br.y0)).setCell ⟨rb, ro + 2, none⟩ (.int .i64 br.x1)).setCell ⟨rb, ro + 3, none⟩ (.int .i64 br.y1)).drewN d = (setRect w7 rb ro br).drewN d from fun d => rfl)
            clear hx7 hx7' hr7 hf7' hn7 hl7 hcc own7 hN7 hL7 hC7 hf7 hOY hCY hre7 hch7 hcr hn8 hl8 hself hcomm hbr hRR
            go_upto_region 42 with (fail)
            change Code.wp _ _ _ _ ((setRect w7 rb ro br).drewN 0)
            clear HFOLD g0 g1 g2 g3 f0 f1 f2 f3
            generalize setRect w7 rb ro br = w8 at hOR ⊢
            go_wp2_with fail
            refine (hOR _).mono ?_
            rintro e w9 ⟨⟨ko, rfl⟩, d9, rfl⟩
            clear hOR
            go_wp2_with fail
            go_ret2
            rw [HB1.out, if_neg e0, if_pos trivial, hek, HQ.out, if_neg (by simp)]
            have ebr : bnd (⟨nn, Bx.upd nd.E kk (ri, t')⟩ : Nde (Nde (El h))) = br := by
              rw [HBR.out]
              unfold bnd
              have h3 := HO3.out.tE
              dsimp only at h3
              dsimp only
              rw [h3]; rfl
            rw [ebr]
            exact ⟨rfl, ic, Y, s3, _, _, rfl, HOY.out, HG6.out, HCH7.out, nofun, HRE7.out⟩
end Go.Proofs.Ytboeldlilkeihaa
