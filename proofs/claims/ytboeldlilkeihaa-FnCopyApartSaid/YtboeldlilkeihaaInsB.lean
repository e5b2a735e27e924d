/- The contract of nodeInsert. -/
import Derived.Test.YtboeldlilkeihaaNode
import Derived.Test.YtboeldlilkeihaaPln
import Derived.Test.YtboeldlilkeihaaInsZ
import Derived.Test.YtboeldlilkeihaaStage
set_option linter.unusedSimpArgs false
set_option linter.unusedVariables false
/- The contract of 'chooseLeastEnlargement'. -/
namespace Go.Proofs.Ytboeldlilkeihaa
open Go.RowKit Go.Bx

theorem area_bound {r : R} (h : r.small) : -4294836225 ≤ r.area ∧ r.area ≤ 4294836225 := by
  obtain ⟨⟨a1, a2⟩, ⟨a3, a4⟩, ⟨a5, a6⟩, ⟨a7, a8⟩⟩ := h
  exact mul_bound ⟨by omega, by omega⟩ ⟨by omega, by omega⟩
theorem uarea_bound {r s : R} (h : r.small) (k : s.small) : -4294836225 ≤ r.unionedArea s ∧ r.unionedArea s ≤ 4294836225 := by
  have := area_bound (R.small_expand h k)
  exact this

set_option maxRecDepth 100000 in
set_option maxHeartbeats 3200000 in
theorem choose_c (w : World) (p c q : Nat) (N : Nd) (n : Nat) (s : R) (hN : NodeAt w p N) (hn : N.cnt = n) (h64 : n ≤ 64) (hs : RectAt w c q s) (hss : s.small) (hsm : ∀ i, i < n → (N.rc i).small) :
    Calls Try.prog 91 #[.pointer (some ⟨p, 0, none⟩), .pointer (some ⟨c, q, none⟩)] w fun e w' => e = .returned (.int .i64 (chooseSt N.rc s n).1) ∧ ∃ d, w' = w.drewN d := by
  have hc := hN.cell2
  rw [hn] at hc
  have n0 : (0 : Int) ≤ (n : Int) := by omega
  have n1 : (n : Int) ≤ 64 := by omega
  go_enter Try.func91, Try.ntmps91
  go_wp2_with fail
  (refine Mix.wp_region_dr (by kernel_rfl) (by kernel_rfl) ?_; (repeat (go_big_quiet_step (fail))); refine wpQuiet_nil ?_; intro nq)
  go_wp2_with fail
  go_loopw [6, 7, 8, 9] (fun j e a i wr => ∃ (k : Nat) (jj ee aa : Int), k ≤ n ∧ i = .int .i64 k ∧ chooseSt N.rc s k = (jj, ee, aa) ∧ j = .int .i64 jj ∧ e = .int .i64 ee ∧ a = .int .i64 aa ∧ ∃ d, wr = w.drewN d) (fun _ _ _ i _ => n - (intOf i).toNat)
  case atStart => exact ⟨0, -1, 0, 0, by omega, rfl, rfl, rfl, rfl, rfl, _, rfl⟩
  case round =>
    obtain ⟨k, jj, ee, aa, hk, rfl, hst, rfl, rfl, rfl, d, rfl⟩ := hrel
    have HST := Lib.hid hst
    clear hst
    by_cases hlt : k < n
    case neg =>
      have hkn : k = n := by omega
      subst hkn
      go_wp2_with fail
      go_ret
      rw [HST.out]
      exact ⟨rfl, _, rfl⟩
    have hr := rectAt_node hN (i := k) (by omega)
    have hb1 := uarea_bound (hsm k hlt) hss
    have hb2 := area_bound (hsm k hlt)
    have hsk := hsm k hlt
    go_wp2_with fail
    refine (unionedArea_c (w.drewN _) p (3 + k * 4) c q (N.rc k) s (hr.of_dr _) (hs.of_dr _) hsk hss).mono ?_
    rintro e w1 ⟨rfl, d1, rfl⟩
    go_wp2_with fail
    refine (area_c (w.drewN _) p (3 + k * 4) (N.rc k) (hr.of_dr _) hsk).mono ?_
    rintro e w1 ⟨rfl, d2, rfl⟩
    generalize hu : (N.rc k).unionedArea s = u at hb1 ⊢
    generalize hv : (N.rc k).area = v at hb2 ⊢
    have HU := Lib.hid hu
    have HV := Lib.hid hv
    clear hu hv
    go_wp2_with fail
    all_goals
      clear hr hsk hc hs hsm hss hN
      go_roundw
      case measure => simp [intOf]; omega
      case rel =>
        first
        | exact ⟨k + 1, k, u - v, v, by omega, by go_num, choose_yes HST.out HU.out HV.out (by (try simp only [beq_iff_eq, beq_eq_false_iff_ne, Bool.not_eq_true', Bool.not_eq_false', decide_eq_true_eq, decide_eq_false_iff_not, ne_eq] at *); omega), rfl, rfl, rfl, _, rfl⟩
        | exact ⟨k + 1, jj, ee, aa, by omega, by go_num, choose_no HST.out HU.out HV.out (by (try simp only [beq_iff_eq, beq_eq_false_iff_ne, Bool.not_eq_true', Bool.not_eq_false', decide_eq_true_eq, decide_eq_false_iff_not, ne_eq] at *); omega), rfl, rfl, rfl, _, rfl⟩
end Go.Proofs.Ytboeldlilkeihaa
/- The contract of 'nodeInsert' at a branch. -/
namespace Go.Proofs.Ytboeldlilkeihaa
open Go.RowKit Go.Bx
theorem quick_yes {α : Type} {E : Nat → R × α} {s : R} {k : Nat} {j a v : Int} (hst : quickSt E s k = (j, a)) (hc : (E k).1.contains s = true) (hv : (E k).1.area = v) (h : j = -1 ∨ v < a) : quickSt E s (k + 1) = ((k : Int), v) := by
  rw [quickSt, hst, hc, hv]
  rw [if_pos]
  simpa using h
theorem quick_no {α : Type} {E : Nat → R × α} {s : R} {k : Nat} {j a v : Int} (hst : quickSt E s k = (j, a)) (hv : (E k).1.area = v) (h : ¬ (j = -1 ∨ v < a)) : quickSt E s (k + 1) = (j, a) := by
  rw [quickSt, hst, hv]
  rw [if_neg]
  simp only [Bool.and_eq_true, Bool.or_eq_true, decide_eq_true_eq]
  exact fun k => h k.2
theorem quick_out {α : Type} {E : Nat → R × α} {s : R} {k : Nat} {j a : Int} (hst : quickSt E s k = (j, a)) (hc : (E k).1.contains s = false) : quickSt E s (k + 1) = (j, a) := by
  rw [quickSt, hst, hc]
  rfl
set_option maxRecDepth 100000 in
set_option maxHeartbeats 12800000 in
theorem insBranch (c : Int) (Z : Nat → Prop) (tr b o : Nat) (sR : R) (x : Int) (hsR : sR.small ∧ sR.ok) (h : Nat) (IHc : InsC c Z tr b o sR x h (ins sR x h) (fun _ => True)) (k : Nat)
    (IHr : InsC c Z tr b o sR x (h + 1) (insB (dfl h) (ins sR x h) sR k) (fun nd => 65 ≤ nd.n + k)) : InsC c Z tr b o sR x (h + 1) (insB (dfl h) (ins sR x h) sR (k + 1)) (fun nd => 65 ≤ nd.n + (k + 1)) := by
  intro w p q ic X s rb ro r nd hP hO hC hW h0
  have HP := Lib.hid hP
  have hn1 : 1 ≤ nd.n := h0.resolve_left (by omega)
  have hN : NodeAt w p ⟨ic, false, nd.n, q, fun i => (X i).1⟩ := hO.nx.nd
  have hL : ListAt w q (elT false) (fE (mp An.v X)) := hO.nx.ls
  have hf : Fit false (fE (mp An.v X)) := hO.nx.fit
  have h64 := hO.nx.n64
  have hsm : ∀ i, i < nd.n → (X i).1.small := fun i hi => by
    have := (hW.2 _ (mem_lst.2 ⟨i, hi, rfl⟩)).small
    rw [hO.et i] at this
    exact this
  obtain ⟨n, hn⟩ : ∃ n, nd.n = n := ⟨_, rfl⟩
  have hc := hN.cell2
  dsimp only at hc
  rw [hn] at hn1 hN hc h64 hsm
  have n0 : (0 : Int) ≤ (n : Int) := by omega
  have n1 : (n : Int) ≤ 64 := by omega
  obtain ⟨i, hi⟩ : ∃ i, pick X n sR = i := ⟨_, rfl⟩
  have hin : i < n := by rw [← hi]; exact pick_lt X n sR hn1
  have HN := Lib.hid hn
  have HI := Lib.hid hi
  have HO := Lib.hid hO
  have HC := Lib.hid hC
  have HW := Lib.hid hW
  have hs := hC.hs
  clear hn hi hO hC hW h0 hP
  go_enter Try.func81, Try.ntmps81
  go_wp2_with fail
  refine (leaf_c _ _ _ hN).mono ?_
  rintro e w1 ⟨rfl, hww⟩
  obtain rfl : w1 = w := hww
  go_wp2_with fail
  (refine Mix.wp_region_dr (by kernel_rfl) (by kernel_rfl) ?_; (repeat (go_big_quiet_step (fail))); refine wpQuiet_nil ?_; intro nq)
  go_wp2_with fail
  go_loopw [15, 16, 17] (fun j a i wr => ∃ (kk : Nat) (jj aa : Int), kk ≤ n ∧ i = .int .i64 kk ∧ quickSt X sR kk = (jj, aa) ∧ j = .int .i64 jj ∧ a = .int .i64 aa ∧ ∃ d, wr = w1.drewN d) (fun _ _ i _ => n - (intOf i).toNat)
  case atStart => exact ⟨0, -1, 0, by omega, rfl, rfl, rfl, rfl, _, rfl⟩
  case round =>
    obtain ⟨kk, jj, aa, hk, rfl, hst, rfl, rfl, d, rfl⟩ := hrel
    have HST := Lib.hid hst
    clear hst
    by_cases hlt : kk < n
    case neg =>
      have hkn : kk = n := by omega
      subst hkn
      go_upto_if 142 with (fail)
      go_cut [15] (fun v wx => v = .int .i64 i ∧ ∃ d, wx = w1.drewN d)
      case first =>
        as_aux_lemma =>
          have hq := quick_spec X sR kk
          rw [HST.out] at hq
          dsimp only at hq
          by_cases hj : jj = -1
          · have hcs : (chooseSt (fun j => (X j).1) sR kk).1 = (i : Int) := by
              obtain ⟨j, hj', hst2, _⟩ := choose_spec (fun j => (X j).1) sR (kk - 1)
              rw [show kk - 1 + 1 = kk by omega] at hst2
              have h1 := HI.out
              unfold pick at h1
              rw [HST.out] at h1
              dsimp only at h1
              rw [if_pos hj, hst2] at h1
              rw [hst2]
              simp only [Int.toNat_natCast] at h1
              exact congrArg Int.ofNat h1
            have hCH := fun d => choose_c (w1.drewN d) p b o ⟨ic, false, kk, q, fun j => (X j).1⟩ kk sR (hN.drewN d) rfl h64 (hs.of_dr d) hsR.1 hsm
            dsimp only at hCH
            rw [hcs] at hCH
            have hb : (jj == -1) = true := by simp [hj]
            clear hq hcs
            go_wp2_with fail
            refine (hCH _).mono ?_
            rintro e w2 ⟨rfl, d2, rfl⟩
            clear hCH
            go_wp2_with fail
            go_meet
            case rel => exact ⟨rfl, _, rfl⟩
          · have hji : jj = (i : Int) := by
              obtain ⟨i', hi', rfl⟩ := hq.resolve_left hj
              have h1 := HI.out
              unfold pick at h1
              rw [HST.out] at h1
              dsimp only at h1
              rw [if_neg hj] at h1
              simp only [Int.toNat_natCast] at h1
              exact congrArg Int.ofNat h1
            have hb : (jj == -1) = false := by simp [hj]
            subst hji
            clear hq hj
            go_wp2_with fail
            go_meet
            case rel => exact ⟨rfl, _, rfl⟩
      case rest =>
        as_aux_lemma =>
          obtain ⟨rfl, d1, rfl⟩ := hcut
          have hnd := HN.out
          have hik : i < nd.n := by omega
          have i64 : (i : Int) < 64 := by omega
          have i0 : (0 : Int) ≤ i := by omega
          have hIi : i < 64 := by omega
          have ctx := HC.out
          have own := HO.out
          have hCOW := fun m => cow_c c Z (w1.drewN m) tr q i h (X i).2.v (X i).2.t (X i).2.s ctx.t0 (hL.cell hIi) (hL.frz i) ((own.entry hik).drewN m)
          have sC := fun m e w' hP => stage_cow (w := w1) (m := m) (e := e) (w' := w') own ctx.sZ hik hP
          have HSC := Lib.hid sC
          clear sC own ctx hnd hc hlt
          go_wp2_with fail
          refine (children_c _ _ _ (hN.drewN _) rfl).mono ?_
          rintro e w2 ⟨rfl, hww⟩
          subst hww
          go_wp2_with fail
          refine (hCOW _).mono ?_
          rintro e w2 hP
          obtain ⟨rfl, W, pi, qi, ici, Xc, X2, s2, dW, rfl, hOc, hX2r, hX2v, hX2t, hO2, hg2, hch2⟩ := HSC.out _ _ _ hP
          clear hP hCOW HSC
          have hnd := HN.out
          have hik : i < nd.n := by omega
          have ctx := HC.out
          have own := HO.out
          have ctx2 : InsCtx c Z W s2 tr rb ro r b o sR := ctx.step hch2 (fun _ h => h) hg2
          have cctx := ctx2.child hO2 hik
          have hci := HW.out.2 _ (mem_lst.2 ⟨i, hik, rfl⟩)
          rw [own.et i] at hci
          dsimp only at hci
          obtain ⟨c1, c2, c3⟩ := Wf_succ.1 hci
          rw [← hX2r i] at c2
          have hyok := ins_ok sR x hsR h (X2 i).1 (X i).2.t (.inr ⟨c1, c2⟩) c3
          have IH := fun m => IHc (W.drewN m) pi qi ici Xc (X2 i).2.s p (3 + i * 4) (X2 i).1 (X i).2.t trivial (hOc.drewN m) (cctx.drewN m) c3 (.inr c1)
          have cW : W.cell? ⟨q, i, none⟩ = some (.pointer (some ⟨pi, 0, none⟩)) := by
            have := hO2.nx.ls.cell hIi
            rw [this]
            exact congrArg some hX2v
          have sCh := fun m (t' : Nde (El h)) (ici : Int) (W' : World) (Xc : Nat → R × An h) (sc : Nat → Prop) hOc hg hc => stage_child (W := W) (W' := W') (m := m) (t' := t') (ici := ici) (Xc := Xc) (sc := sc) (pi := pi) (qi := qi) hO2 ctx2.sZ hik hX2v hOc hg hc
          have HSCH := Lib.hid sCh
          have HO2 := Lib.hid hO2
          have HC2 := Lib.hid ctx2
          have HX2R := Lib.hid hX2r
          have HG2 := Lib.hid hg2
          have HCH2 := Lib.hid hch2
          have HC1 := Lib.hid c1
          have HC3 := Lib.hid c3
          have HC2b := Lib.hid c2
          obtain ⟨y, hyy⟩ : ∃ y, ins sR x h (X2 i).1 (X i).2.t = y := ⟨_, rfl⟩
          rw [hyy] at hyok IH
          have HYY := Lib.hid hyy
          have HYOK := Lib.hid hyok
          clear hnd hik ctx own ctx2 cctx hci c1 c2 c3 sCh hO2 hX2r hg2 hch2 hyy hyok hX2v hX2t hOc
          go_wp2_with fail
          (refine Mix.wp_region_drw 12 [5] (by kernel_rfl) (by kernel_rfl) ?_; simp only [List.take_succ_cons, List.take_zero, List.drop_succ_cons, List.drop_zero]; (repeat (go_big_quiet_step (fail))); refine wpQuiet_nil ?_)
          (refine Mix.wpTl_dr (fun n K hK => ?_); go_simp)
          refine (IH _).mono ?_
          rintro e w3 ⟨rfl, ic3, X3c, s3c, hO3c, hg3c, hc3c⟩
          obtain ⟨X3, s3, hX3, hO3, hg3, hc3⟩ := HSCH.out _ _ _ _ _ _ hO3c hg3c hc3c
          clear IH HSCH hg3c hc3c
          refine ⟨_, rfl, w3, Mix.Dr.refl _, hK _ _ trivial ?_⟩
          (clear hK K; simp only [Act.put, List.setIfInBounds_toArray, List.set_cons_zero, List.set_cons_succ, List.take_succ_cons, List.take_zero, List.drop_succ_cons, List.drop_zero])
          (repeat (go_big_quiet_step (fail)))
          (refine wpQuiet_nil ?_; intro nq)
          as_aux_lemma =>
            obtain ⟨sp, g, t'⟩ := y
            dsimp only at hO3c hX3 hO3 ⊢
            have hB := insB_at (k := k) (r := r) HO.out.tE HN.out HI.out (HX2R.out i).symm rfl HYY.out
            have hcomp := comp HG2.out HCH2.out hg3 hc3
            have ctx3 := HC2.out.step hc3 (fun _ h => h) hg3
            rw [HN.out] at hO3
            have HBB := Lib.hid hB
            have HCO := Lib.hid hcomp
            have HC3 := Lib.hid ctx3
            have HX3 := Lib.hid hX3
            clear hB hcomp ctx3 hg3 hc3 hX3
            have nN : NodeAt w3 p ⟨ic, false, kk, q, fun j => (X3 j).1⟩ := hO3.nx.nd
            have nL : ListAt w3 q (elT false) (fE (mp An.v X3)) := hO3.nx.ls
            have hpq := hO3.nx.pq
            have HO3 := Lib.hid hO3
            have HO3C := Lib.hid hO3c
            clear hO3 hO3c hN hL hf hs
            have cN3 := nN.cell2
            dsimp only at cN3
            cases sp with
            | false =>
              cases g with
              | false =>
                go_wp2_with fail
                go_ret2
                rw [HBB.out]
                exact ⟨rfl, ic, X3, s3, HO3.out.drewN _, HCO.out.1, HCO.out.2.drewN _⟩
              | true =>
                as_aux_lemma =>
                  have ctx3 := HC3.out
                  have own3 := HO3.out
                  have hX3i : (X3 i).1 = (X2 i).1 := by rw [HX3.out, upd_same]
                  have hrp : rb ≠ p := fun h => ctx3.rs (h ▸ own3.ow.sp)
                  have hrq : rb ≠ q := fun h => ctx3.rs (h ▸ own3.ow.sq)
                  have hbp : b ≠ p := fun h => ctx3.bs (h ▸ own3.ow.sp)
                  have hbq : b ≠ q := fun h => ctx3.bs (h ▸ own3.ow.sq)
                  have hEX := fun d => expand_c (w3.drewN d) p (3 + i * 4) b o (X3 i).1 sR ((rectAt_node nN hIi).of_dr d) (ctx3.hs.of_dr d) hbp.symm (nN.frz _) (nN.frz _) (nN.frz _) (nN.frz _)
                  have hSR : ∀ d r', setRect (w3.drewN d) p (3 + i * 4) r' = (w3.putN p ⟨ic, false, kk, q, Bx.upd (fun j => (X3 j).1) i r'⟩).drewN d := fun d r' => by
                    rw [setRect_node (nN.drewN d) hIi]; rfl
                  have hN4 : NodeAt (w3.putN p ⟨ic, false, kk, q, Bx.upd (fun j => (X3 j).1) i ((X3 i).1.expand sR)⟩) p ⟨ic, false, kk, q, fun j => (mp An.v (Bx.upd X3 i ((X3 i).1.expand sR, (X3 i).2)) j).1⟩ := by rw [fst_mp_rect]; exact NodeAt.put _ nN.lt
                  have hL4 : ListAt (w3.putN p ⟨ic, false, kk, q, Bx.upd (fun j => (X3 j).1) i ((X3 i).1.expand sR)⟩) q (elT false) (fE (mp An.v X3)) := nL.putN_other hpq
                  have hC4 : Chg (fun b => b = p ∨ b = q) w3 (w3.putN p ⟨ic, false, kk, q, Bx.upd (fun j => (X3 j).1) i ((X3 i).1.expand sR)⟩) := (Chg.refl _ _).putN (.inl (.inl rfl)) _
                  rw [← fE_mp_rect X3 i ((X3 i).1.expand sR)] at hL4
                  have hf4 : Fit false (fE (mp An.v (Bx.upd X3 i ((X3 i).1.expand sR, (X3 i).2)))) := by rw [fE_mp_rect]; exact own3.nx.fit
                  go_wp2_with fail
                  refine (hEX _).mono ?_
                  rintro e w4 ⟨rfl, d4, rfl⟩
                  rw [hSR]
                  generalize w3.putN p ⟨ic, false, kk, q, Bx.upd (fun j => (X3 j).1) i ((X3 i).1.expand sR)⟩ = w4 at hN4 hL4 hC4 ⊢
                  have hOL := fun d => ordL_c w4 p ⟨ic, false, kk, q, fun j => (mp An.v (Bx.upd X3 i ((X3 i).1.expand sR, (X3 i).2)) j).1⟩ hN4.lt hL4.lt hpq (mp An.v (Bx.upd X3 i ((X3 i).1.expand sR, (X3 i).2))) d i hIi hf4
                  have hself : w4.putE p ⟨ic, false, kk, q, fun j => (mp An.v (Bx.upd X3 i ((X3 i).1.expand sR, (X3 i).2)) j).1⟩ (elT false) (mp An.v (Bx.upd X3 i ((X3 i).1.expand sR, (X3 i).2))) = w4 := putE_self hN4 hL4
                  dsimp only at hOL
                  rw [hself] at hOL
                  have hN5 := NodeAt.putE w4 p ⟨ic, false, kk, q, fun j => (mp An.v (Bx.upd X3 i ((X3 i).1.expand sR, (X3 i).2)) j).1⟩ (elT false) (ordL (mp An.v (Bx.upd X3 i ((X3 i).1.expand sR, (X3 i).2))) i) hN4.lt hpq.symm
                  have hL5 := ListAt.putE w4 p ⟨ic, false, kk, q, fun j => (mp An.v (Bx.upd X3 i ((X3 i).1.expand sR, (X3 i).2)) j).1⟩ (elT false) (ordL (mp An.v (Bx.upd X3 i ((X3 i).1.expand sR, (X3 i).2))) i) hL4.lt
                  have hC5 := hC4.putE (p := p) (N := ⟨ic, false, kk, q, fun j => (mp An.v (Bx.upd X3 i ((X3 i).1.expand sR, (X3 i).2)) j).1⟩) (.inl (.inl rfl)) (.inl (.inr rfl)) (elT false) (ordL (mp An.v (Bx.upd X3 i ((X3 i).1.expand sR, (X3 i).2))) i)
                  have hf5 := Fit.ordL hf4 i
                  generalize w4.putE p ⟨ic, false, kk, q, fun j => (mp An.v (Bx.upd X3 i ((X3 i).1.expand sR, (X3 i).2)) j).1⟩ (elT false) (ordL (mp An.v (Bx.upd X3 i ((X3 i).1.expand sR, (X3 i).2))) i) = w5 at hN5 hL5 hC5 hOL
                  have hCT := fun d => contains_c (w5.drewN d) rb ro b o r sR ((hC5.rect ctx3.hr (by simp; omega)).of_dr d) ((hC5.rect ctx3.hs (by simp; omega)).of_dr d)
                  obtain ⟨Y, hOY, hCY⟩ := stage_left (t := ⟨kk, Bx.upd nd.E i ((X2 i).1, t')⟩) (r' := (X3 i).1.expand sR) own3 (i := i) (by exact hin) ctx3.sZ hC5 hN5 hL5 hf5
                  dsimp only at hOY
                  rw [upd_same, upd_upd, hX3i] at hOY
                  have HOY := Lib.hid hOY
                  have HCY := Lib.hid hCY
                  clear hOY hCY hN5 hL5 hC5 hf5 hN4 hL4 hC4 hf4 hself hEX hSR ctx3 own3 hX3i cN3 nN nL
                  go_wp2_with fail
                  refine (hOL _).mono ?_
                  rintro e w6 ⟨⟨ko, rfl⟩, d6, rfl⟩
                  clear hOL
                  go_wp2_with fail
                  refine (hCT _).mono ?_
                  rintro e w7 ⟨rfl, d7, rfl⟩
                  clear hCT
                  go_wp2_with fail
                  go_ret2
                  rw [HBB.out]
                  refine ⟨rfl, ic, Y, s3, HOY.out.drewN _, HCO.out.1, ?_⟩
                  exact (comp HCO.out.1 HCO.out.2 (Grew.refl _ _) HCY.out).2.drewN _
            | true =>
              by_cases hk64 : kk = 64
              · subst hk64
                have e64 : (((64 : Nat) : Int) == 64) = true := rfl
                go_wp2_with fail
                go_ret2
                rw [HBB.out]
                exact ⟨rfl, ic, X3, s3, HO3.out.drewN _, HCO.out.1, HCO.out.2.drewN _⟩
              ·
                as_aux_lemma =>
                  have e64 : ((kk : Int) == 64) = false := by simp; omega
                  have kk63 : kk ≤ 63 := by omega
                  have ctx3 := HC3.out
                  have own3 := HO3.out
                  have ownc := HO3C.out
                  have hX3i : X3 i = ((X2 i).1, ⟨.pointer (some ⟨pi, 0, none⟩), t', s3c⟩) := by rw [HX3.out, upd_same]
                  obtain ⟨hn64, hper, hful⟩ := HYOK.out.split rfl
                  have hwft := HYOK.out.wf
                  dsimp only at hn64 hper hful hwft
                  have hsubc := own3.esub (i := i) hin
                  rw [hX3i] at hsubc
                  dsimp only at hsubc
                  have hpp : p ≠ pi := fun h => (hsubc _ ownc.ow.sp).2.1 h.symm
                  have hpqi : p ≠ qi := fun h => (hsubc _ ownc.ow.sq).2.1 h.symm
                  have hqpi : q ≠ pi := fun h => (hsubc _ ownc.ow.sp).2.2 h.symm
                  have hqqi : q ≠ qi := fun h => (hsubc _ ownc.ow.sq).2.2 h.symm
                  have cL3 : w3.cell? ⟨q, i, none⟩ = some (.pointer (some ⟨pi, 0, none⟩)) := by
                    rw [nL.cell hIi]
                    show some (X3 i).2.v = _
                    rw [hX3i]
                  have ris : (X2 i).1.small := by rw [HX2R.out i]; exact hsm i hin
                  have hsmt : ∀ j, j < t'.n → (mp An.v X3c j).1.small := fun j hj => by
                    have h1 := (hwft.2 _ (mem_lst.2 ⟨j, hj, rfl⟩)).small
                    rw [ownc.tE] at h1
                    exact h1
                  have hSP := fun d => split_c (w3.drewN d) tr pi qi c ic3 (leafB h) t'.n (mp An.v X3c) (X2 i).1 ctx3.t0 ctx3.t7 (ownc.nx.nd.drewN d) (ownc.nx.ls.drewN d) ownc.nx.fit ownc.nx.pq (fun h => ctx3.ts (h ▸ (hsubc _ ownc.ow.sp).1)) (fun h => ctx3.ts (h ▸ (hsubc _ ownc.ow.sq).1)) (by omega) (by omega) ris hsmt
                  obtain ⟨g0, g1, g2, g3⟩ := rectAt_node nN hIi
                  have hri3 : (X3 i).1 = (X2 i).1 := by rw [hX3i]
                  dsimp only at g0 g1 g2 g3
                  rw [hri3] at g0 g1 g2 g3
                  have sSp := fun d (e : Ending) (w4 : World) (hS : SplitPost (w3.drewN d) pi qi c ic3 (leafB h) (X2 i).1 t'.n (mp An.v X3c) e w4) => (ownc.drewN d).split (e := e) (w' := w4) (by omega) (fun b hb => ctx3.sZ b (hsubc b hb).1) hS
                  have SSP := Lib.hid sSp
                  have HSUBC := Lib.hid hsubc
                  have HX3I := Lib.hid hX3i
                  have HN64 := Lib.hid hn64
                  have HPER := Lib.hid hper
                  have HFUL := Lib.hid hful
                  have HWFT := Lib.hid hwft
                  clear sSp hsubc hX3i hn64 hper hful hwft own3 ownc ctx3 hsmt hri3
                  go_wp2_with fail
                  refine (hSP _).mono ?_
                  rintro e w4 hS
                  obtain ⟨p', q', A, B, sl, sr, rfl, hp', hOl, hOr, hsl, hgr, hsep, hch4⟩ := SSP.out _ _ _ hS
                  clear hS hSP SSP g0 g1 g2 g3
                  as_aux_lemma =>
                    have hc4 : Chg (fun b => b = pi ∨ b = qi) w3 w4 := (Chg.ex ((Mix.Ex.refl w3).drewN _)).trans hch4
                    have nN4 := hc4.node nN (by simp; omega)
                    have nL4 := hc4.list nL (by simp; omega)
                    obtain ⟨l, hl⟩ : ∃ l, (cut (dfl h) (X2 i).1 t').1 = l := ⟨_, rfl⟩
                    obtain ⟨rr, hrr⟩ : ∃ rr, (cut (dfl h) (X2 i).1 t').2 = rr := ⟨_, rfl⟩
                    rw [hl] at hOl
                    rw [hrr] at hOr
                    have HL := Lib.hid hl
                    have HRR := Lib.hid hrr
                    have hbl : bndF (fun j => (A j).1) (l.n - 1) = bnd l := by unfold bnd; rw [hOl.tE]; rfl
                    have hbr : bndF (fun j => (B j).1) (rr.n - 1) = bnd rr := by unfold bnd; rw [hOr.tE]; rfl
                    have hRL := fun d => noderect_c (w4.drewN d) pi _ l.n (hOl.nx.nd.drewN d) rfl hOl.nx.n64
                    dsimp only at hRL
                    rw [hbl] at hRL
                    clear hl hrr hch4 nN nL cN3 cL3 hbl
                    have HOL := Lib.hid hOl
                    have HOR := Lib.hid hOr
                    clear hOl
                    go_wp2_with fail
                    (refine Mix.wp_region_drw 3 [3, 0] (by kernel_rfl) (by kernel_rfl) ?_; simp only [List.take_succ_cons, List.take_zero, List.drop_succ_cons, List.drop_zero]; (repeat (go_big_quiet_step (fail))); refine wpQuiet_nil ?_)
                    (refine Mix.wpTl_dr (fun n K hK => ?_); go_simp)
                    refine (hRL _).mono ?_
                    rintro e w5 ⟨⟨bl, hbl, rfl⟩, hx5⟩
                    have HBL := Lib.hid hbl
                    have hx5' : Mix.Ex w4 w5 := ((Mix.Ex.refl w4).drewN _).trans hx5
                    have n5 := nN4.ex hx5'
                    have l5 := nL4.ex hx5'
                    have c5 : Chg (fun b => b = p ∨ b = q) w4 w5 := Chg.ex hx5'
                    have hqp := hpq.symm
                    clear hbl hRL hx5 hx5' nN4 nL4
                    obtain ⟨w6, rfl, hp6, hq6, -, -, -⟩ := n5.opn3 l5
                    have C5 := Lib.hid c5
                    clear n5 l5 c5
                    refine ⟨_, rfl, _, Mix.Dr.refl _, hK _ _ trivial ?_⟩
                    (clear hK K; simp only [Act.put, List.setIfInBounds_toArray, List.set_cons_zero, List.set_cons_succ, List.take_succ_cons, List.take_zero, List.drop_succ_cons, List.drop_zero])
                    (repeat (go_big_quiet_step (fail))); refine wpQuiet_nil ?_
                    (refine Mix.wpTl_dr (fun n K hK => ?_); go_simp; refine ⟨_, ⟨_, rfl⟩, hK _ _ trivial ?_⟩; clear hK K; simp only [Act.put, List.take_succ_cons, List.take_zero, List.drop_succ_cons, List.drop_zero])
                    (refine wpQuiet_nil ?_; intro nq)
                    rw [setR_mk]
                    obtain ⟨E0, hE0⟩ : ∃ E0 : Ent, E0 = Bx.upd (mp An.v X3) i (bl, .pointer (some ⟨pi, 0, none⟩)) := ⟨_, rfl⟩
                    have eF : fE (mp An.v X3) = fE E0 := by
                      rw [hE0, fE_upd]
                      have : Value.pointer (some ⟨pi, 0, none⟩) = fE (mp An.v X3) i := by
                        show _ = (X3 i).2.v
                        rw [HX3I.out]
                      dsimp only
                      rw [this, upd_self]
                    have eR : Bx.upd (fun j => (X3 j).1) i bl = fun j => (E0 j).1 := by rw [hE0, fst_upd]; rfl
                    have hf0 : Fit false (fE E0) := by rw [← eF]; exact HO3.out.nx.fit
                    have n7 : NodeAt ((w6.putN p ⟨ic, false, kk, q, fun j => (E0 j).1⟩).putL q (elT false) (fE E0)) p ⟨ic, false, kk, q, fun j => (E0 j).1⟩ := (NodeAt.put _ hp6).putL_other hqp
                    have l7 : ListAt ((w6.putN p ⟨ic, false, kk, q, fun j => (E0 j).1⟩).putL q (elT false) (fE E0)) q (elT false) (fE E0) := ListAt.put _ _ (by simp; exact hq6)
                    have c7 := (C5.out.putN (p := p) (.inl (.inl rfl)) ⟨ic, false, kk, q, fun j => (E0 j).1⟩).putL (q := q) (.inl (.inr rfl)) (elT false) (fE E0)
                    rw [World.reput _ hqp] at c7
                    rw [eR, eF]
                    have HE0 := Lib.hid hE0
                    clear hE0 eF eR C5
                    generalize ((w6.putN p ⟨ic, false, kk, q, fun j => (E0 j).1⟩).putL q (elT false) (fE E0)) = w7 at n7 l7 c7 ⊢
                    as_aux_lemma =>
                      obtain ⟨i1, hi1⟩ : ∃ i1, i + 1 = i1 := ⟨_, rfl⟩
                      obtain ⟨i2, hi2⟩ : ∃ i2, i + 2 = i2 := ⟨_, rfl⟩
                      obtain ⟨k1, hk1⟩ : ∃ k1, kk + 1 = k1 := ⟨_, rfl⟩
                      have j1 : (i : Int) + 1 = i1 := by omega
                      have j2 : (i : Int) + 2 = i2 := by omega
                      have j3 : (kk : Int) + 1 = k1 := by omega
                      have b0 : (0 : Int) ≤ i1 := by omega
                      have b1 : (i1 : Int) ≤ kk := by omega
                      have b3 : (i2 : Int) ≤ k1 := by omega
                      have b4 : (k1 : Int) ≤ 64 := by omega
                      have b5 : i1 < 64 := by omega
                      have b6 : (i1 : Int) < 64 := by omega
                      have hkm : Nat.min (kk - i1) (k1 - i2) = kk - i1 := by rw [show k1 - i2 = kk - i1 by omega]; exact Nat.min_self _
                      have d2 : i1 + (kk - i1) ≤ 64 := by omega
                      obtain ⟨d', a1, a2, d1', mv⟩ := slot_end p q i2 i1 (kk - i1) (by omega) (by omega)
                      have MV := Lib.hid (mv (fun j => (E0 j).1))
                      have MW := Lib.hid (mv (fE E0))
                      have HI1 := Lib.hid hi1
                      have HI2 := Lib.hid hi2
                      have HK1 := Lib.hid hk1
                      clear hi1 hi2 hk1 mv
                      have cN7 := n7.cell2
                      dsimp only at cN7
                      go_wp2_with fail
                      (refine Mix.wp_region_drw 23 [0] (by kernel_rfl) (by kernel_rfl) ?_; simp only [List.take_succ_cons, List.take_zero, List.drop_succ_cons, List.drop_zero]; (repeat (go_big_quiet_step (fail))); refine wpQuiet_nil ?_)
                      (try simp only [World.drewN_drewN])
                      refine Mix.wpTl_copy (.tmp 206) (.tmp 217) 129 129 rfl (.slice (some ⟨p, 3 + d' * 4, none⟩) (k1 - i2) (64 - i2)) (.slice (some ⟨p, 3 + i1 * 4, none⟩) (kk - i1) (64 - i1)) _ _ rfl rfl (copyR_at n7 _ d' _ _ i1 _ _ (kk - i1) hkm d1' d2) trivial ?_
                      (simp only [Act.put, List.setIfInBounds_toArray, List.set_cons_zero, List.set_cons_succ, List.take_succ_cons, List.take_zero, List.drop_succ_cons, List.drop_zero])
                      (refine wpQuiet_nil ?_; intro nq)
                      rw [MV.out]
                      have n8 : NodeAt (w7.putN p ⟨ic, false, kk, q, mv2 (fun j => (E0 j).1) (fun j => (E0 j).1) i2 i1 (kk - i1)⟩) p ⟨ic, false, kk, q, mv2 (fun j => (E0 j).1) (fun j => (E0 j).1) i2 i1 (kk - i1)⟩ := NodeAt.put _ n7.lt
                      have l8 := l7.putN_other (M := ⟨ic, false, kk, q, mv2 (fun j => (E0 j).1) (fun j => (E0 j).1) i2 i1 (kk - i1)⟩) hpq
                      have c8 := c7.putN (p := p) (.inl (.inl rfl)) ⟨ic, false, kk, q, mv2 (fun j => (E0 j).1) (fun j => (E0 j).1) i2 i1 (kk - i1)⟩
                      clear n7 l7 c7 cN7
                      generalize w7.putN p ⟨ic, false, kk, q, mv2 (fun j => (E0 j).1) (fun j => (E0 j).1) i2 i1 (kk - i1)⟩ = w8 at n8 l8 c8 ⊢
                      have cN8 := n8.cell2
                      dsimp only at cN8
                      go_wp2_with fail
                      (refine Mix.wp_region_drw 19 [0] (by kernel_rfl) (by kernel_rfl) ?_; simp only [List.take_succ_cons, List.take_zero, List.drop_succ_cons, List.drop_zero]; (repeat (go_big_quiet_step (fail))); refine wpQuiet_nil ?_)
                      (try simp only [World.drewN_drewN])
                      refine Mix.wpTl_copy (.tmp 228) (.tmp 237) 105 105 rfl (.slice (some ⟨q, d', none⟩) (k1 - i2) (64 - i2)) (.slice (some ⟨q, i1, none⟩) (kk - i1) (64 - i1)) _ _ rfl rfl (copyL_at (b := false) l8 hf0 _ d' _ _ i1 _ _ (kk - i1) hkm d1' d2) trivial ?_
                      (simp only [Act.put, List.setIfInBounds_toArray, List.set_cons_zero, List.set_cons_succ, List.take_succ_cons, List.take_zero, List.drop_succ_cons, List.drop_zero])
                      (refine wpQuiet_nil ?_; intro nq)
                      rw [MW.out]
                      as_aux_lemma =>
                        obtain ⟨E1, hE1⟩ : ∃ E1 : Ent, E1 = shiftR E0 i1 kk := ⟨_, rfl⟩
                        have eR1 : mv2 (fun j => (E0 j).1) (fun j => (E0 j).1) i2 i1 (kk - i1) = fun j => (E1 j).1 := by
                          rw [hE1, fst_shiftR, ← mv2_up, show i1 + 1 = i2 by have := HI1.out; have := HI2.out; omega]
                        have eF1 : mv2 (fE E0) (fE E0) i2 i1 (kk - i1) = fE E1 := by
                          rw [hE1, fE_shiftR, ← mv2_up, show i1 + 1 = i2 by have := HI1.out; have := HI2.out; omega]
                        have hf1 : Fit false (fE E1) := by rw [← eF1]; exact hf0.mv _ _ _
                        rw [eR1] at n8
                        have n9 := n8.putL_other (T := elT false) (f := fE E1) hqp
                        have l9 : ListAt (w8.putL q (elT false) (fE E1)) q (elT false) (fE E1) := ListAt.put _ _ l8.lt
                        have c9 := c8.putL (q := q) (.inl (.inr rfl)) (elT false) (fE E1)
                        rw [eF1]
                        have HE1 := Lib.hid hE1
                        clear n8 l8 c8 cN8 hE1 eR1 eF1 MV MW
                        generalize w8.putL q (elT false) (fE E1) = w9 at n9 l9 c9 ⊢
                        have hsz3 := hc4.size
                        have hpp' : ¬ (p' = p ∨ p' = q) := by
                          have h1 := HO3.out.ow.slt _ HO3.out.ow.sp
                          have h2 := HO3.out.ow.slt _ HO3.out.ow.sq
                          have h3 : w3.heap.size ≤ p' := hp'
                          omega
                        have hRR := fun d => noderect_c (w9.drewN d) p' _ rr.n ((c9.node hOr.nx.nd hpp').drewN d) rfl hOr.nx.n64
                        dsimp only at hRR
                        rw [hbr] at hRR
                        clear hOr hbr
                        go_wp2_with fail
                        (refine Mix.wp_region_pure 4 [3, 0] (by kernel_rfl) (by kernel_rfl) ?_; simp only [List.take_succ_cons, List.take_zero, List.drop_succ_cons, List.drop_zero]; (repeat (go_big_quiet_step (fail))); refine wpQuiet_nil ?_)
                        (refine Mix.wpTl_dr (fun n K hK => ?_); go_simp)
                        refine (hRR _).mono ?_
                        rintro e w10 ⟨⟨br, hbr, rfl⟩, hx10⟩
                        have HBR := Lib.hid hbr
                        have hx10' : Mix.Ex w9 w10 := ((Mix.Ex.refl w9).drewN _).trans hx10
                        have n10 := n9.ex hx10'
                        have l10 := l9.ex hx10'
                        have c10 : Chg (fun b => b = p ∨ b = q) w4 w10 := c9.trans (Chg.ex hx10')
                        clear hbr hRR hx10 hx10' n9 l9 c9
                        obtain ⟨w11, rfl, hp11, hq11, -, -, -⟩ := n10.opn3 l10
                        have C10 := Lib.hid c10
                        clear n10 l10 c10
                        refine ⟨_, rfl, _, Mix.Dr.refl _, hK _ _ trivial ?_⟩
                        (clear hK K; simp only [Act.put, List.setIfInBounds_toArray, List.set_cons_zero, List.set_cons_succ, List.take_succ_cons, List.take_zero, List.drop_succ_cons, List.drop_zero])
                        (repeat (go_big_quiet_step (fail))); refine wpQuiet_nil ?_
                        (refine Mix.wpTl_dr (fun n K hK => ?_); go_simp; refine ⟨_, ⟨_, rfl⟩, hK _ _ trivial ?_⟩; clear hK K; simp only [Act.put, List.take_succ_cons, List.take_zero, List.drop_succ_cons, List.drop_zero])
                        (refine wpQuiet_nil ?_; intro nq)
                        rw [setR_mk]
                        go_upto_region 41 with (fail)
                        (try rw [setCnt_mk])
                        as_aux_lemma =>
                          obtain ⟨E2, hE2⟩ : ∃ E2 : Ent, E2 = Bx.upd E1 i1 (br, .pointer (some ⟨p', 0, none⟩)) := ⟨_, rfl⟩
                          have eR2 : Bx.upd (fun j => (E1 j).1) i1 br = fun j => (E2 j).1 := by rw [hE2, fst_upd]
                          have eF2 : Bx.upd (fE E1) i1 (.pointer (some ⟨p', 0, none⟩)) = fE E2 := by rw [hE2, fE_upd]
                          have hf2 : Fit false (fE E2) := by rw [← eF2]; exact Fit.ptr hf1 _ _
                          have n12 : NodeAt ((w11.putN p ⟨ic, false, k1, q, fun j => (E2 j).1⟩).putL q (elT false) (fE E2)) p ⟨ic, false, k1, q, fun j => (E2 j).1⟩ := (NodeAt.put _ hp11).putL_other hqp
                          have l12 : ListAt ((w11.putN p ⟨ic, false, k1, q, fun j => (E2 j).1⟩).putL q (elT false) (fE E2)) q (elT false) (fE E2) := ListAt.put _ _ (by simp; exact hq11)
                          have c12 := (C10.out.putN (p := p) (.inl (.inl rfl)) ⟨ic, false, k1, q, fun j => (E2 j).1⟩).putL (q := q) (.inl (.inr rfl)) (elT false) (fE E2)
                          rw [World.reput _ hqp] at c12
                          rw [eR2, eF2]
                          have HE2 := Lib.hid hE2
                          clear hE2 eF2 eR2 C10
                          generalize ((w11.putN p ⟨ic, false, k1, q, fun j => (E2 j).1⟩).putL q (elT false) (fE E2)) = w12 at n12 l12 c12 ⊢
                          obtain ⟨u0, _, _, _⟩ := rectAt_node n12 hIi
                          obtain ⟨v0, _, _, _⟩ := rectAt_node n12 b5
                          dsimp only at u0 v0
                          have eu : (E2 i).1 = bl := by
                            have h1 := HI1.out
                            rw [HE2.out, upd_other _ _ _ _ (by omega), HE1.out]
                            unfold shiftR
                            rw [if_neg (by omega), HE0.out, upd_same]
                          have ev : (E2 i1).1 = br := by rw [HE2.out, upd_same]
                          rw [eu] at u0
                          rw [ev] at v0
                          generalize hu : bl.x0 = u at u0
                          generalize hv : br.x0 = v at v0
                          have HU := Lib.hid hu
                          have HV := Lib.hid hv
                          obtain ⟨E3, hE3⟩ : ∃ E3 : Ent, E3 = if v < u then swapF E2 i1 i else E2 := ⟨_, rfl⟩
                          have hf3 : Fit false (fE E3) := by
                            rw [hE3]
                            split
                            · exact Fit.swapE hf2 i1 i
                            · exact hf2
                          have hSW := fun d => swapE_c w12 p ⟨ic, false, k1, q, fun j => (E2 j).1⟩ E2 i1 i d n12.lt l12.lt hpq hf2 b5 hIi
                          have hself : w12.putE p ⟨ic, false, k1, q, fun j => (E2 j).1⟩ (elT false) E2 = w12 := putE_self n12 l12
                          dsimp only at hSW
                          rw [hself] at hSW
                          have HE3 := Lib.hid hE3
                          have HSELF := Lib.hid hself
                          clear hu hv eu ev hE3 hself
                          go_upto_if 276 with (go_quiet (fail))
                          go_cut [] (fun wx => ∃ d, wx = (w12.putE p ⟨ic, false, k1, q, fun j => (E2 j).1⟩ (elT false) E3).drewN d)
                          case first =>
                            as_aux_lemma =>
                              by_cases hvu : v < u
                              · go_wp2_with fail
                                refine (hSW _).mono ?_
                                rintro e w13 ⟨rfl, d13, rfl⟩
                                clear hSW
                                go_wp2_with fail
                                go_meet
                                case rel => exact ⟨_, by rw [HE3.out, if_pos hvu]⟩
                              · clear hSW
                                go_wp2_with fail
                                go_meet
                                case rel => exact ⟨_, by rw [HE3.out, if_neg (by omega), HSELF.out]⟩
                          case rest =>
                            as_aux_lemma =>
                              obtain ⟨d13, rfl⟩ := hcut
                              have hi1 := HI1.out
                              have hk1 := HK1.out
                              have hkk := HN.out
                              have hik : i < nd.n := by omega
                              have own := HO.out
                              have ownc := HO3C.out
                              have ctx3 := HC3.out
                              have hORD := fun d => ordR_c w12 p ⟨ic, false, k1, q, fun j => (E2 j).1⟩ n12.lt l12.lt hpq k1 E3 d (kk - i) i1 rfl (by omega) (by omega) (by omega) (by omega) hf3
                              dsimp only at hORD
                              have hcl : ordR E3 k1 (kk - i) i1 = cleave (mp An.v X3) kk i (bnd (cut (dfl h) (X2 i).1 t').1, .pointer (some ⟨pi, 0, none⟩)) (bnd (cut (dfl h) (X2 i).1 t').2, .pointer (some ⟨p', 0, none⟩)) := by
                                unfold cleave
                                dsimp only
                                rw [HL.out, HRR.out, ← HBL.out, ← HBR.out, hi1, hk1, ← HE0.out, ← HE1.out, ← HE2.out, HU.out, HV.out, ← HE3.out]
                              have hN14 := NodeAt.putE w12 p ⟨ic, false, k1, q, fun j => (E2 j).1⟩ (elT false) (ordR E3 k1 (kk - i) i1) n12.lt hpq.symm
                              have hL14 := ListAt.putE w12 p ⟨ic, false, k1, q, fun j => (E2 j).1⟩ (elT false) (ordR E3 k1 (kk - i) i1) l12.lt
                              have hf14 : Fit false (fE (ordR E3 k1 (kk - i) i1)) := Fit.ordR hf3 k1 (kk - i) i1
                              have c14 := c12.putE (p := p) (N := ⟨ic, false, k1, q, fun j => (E2 j).1⟩) (.inl (.inl rfl)) (.inl (.inr rfl)) (elT false) (ordR E3 k1 (kk - i) i1)
                              generalize w12.putE p ⟨ic, false, k1, q, fun j => (E2 j).1⟩ (elT false) (ordR E3 k1 (kk - i) i1) = w14 at hN14 hL14 c14 hORD
                              rw [hcl] at hN14 hL14 hf14
                              rw [← hk1] at hN14
                              have hri : (nd.E i).1 = (X2 i).1 := by rw [own.et i, HX2R.out i]
                              obtain ⟨Y, s', hOY, hgY, hcY⟩ := stage_split (w := w3) (w4 := w4) (w' := w14) (pi := pi) (qi := qi) (p' := p') HO3.out hkk hin (by omega) hri HX3I.out ctx3.sZ ctx3.zlt (by rw [HL.out]; exact HOL.out) (by rw [HRR.out]; exact HOR.out) hsl hgr hsep hc4 ownc.ow.sp ownc.ow.sq c14 hN14 hL14 hf14
                              have ctx5 := ctx3.step hcY (fun _ h => h) hgY
                              have hper : (itsN h t').Perm (itsN h (nd.E i).2) := by rw [own.et i]; exact HPER.out
                              have hful : fullN h t' ≤ fullN h (nd.E i).2 := by rw [own.et i]; exact HFUL.out
                              obtain ⟨wfc, _, _⟩ := cleaveAt_spec nd i t' hik HN64.out HW.out HWFT.out (by omega) hper hful
                              have IH2 := fun m => IHr (w14.drewN m) p q ic Y s' rb ro r (cleaveAt (dfl h) nd i t') (by have := HP.out; show 65 ≤ nd.n + 1 + k; omega) (hOY.drewN m) (ctx5.drewN m) wfc (.inr (by show 1 ≤ nd.n + 1; omega))
                              have hcomp := comp HCO.out.1 HCO.out.2 hgY hcY
                              have hB := HBB.out
                              rw [if_pos trivial, if_neg hk64] at hB
                              have HBB2 := Lib.hid hB
                              have HCO2 := Lib.hid hcomp
                              clear hB hcomp hgY hcY hN14 hL14 hf14 c14 hcl own ownc ctx3 ctx5 hper hful wfc hOY u0 v0 n12 l12 c12 hSW hi1 hk1 hkk hik hri
                              go_wp2_with fail
                              refine (hORD _).mono ?_
                              rintro e w15 ⟨⟨ko, rfl⟩, d15, rfl⟩
                              clear hORD
                              go_wp2_with fail
                              refine (IH2 _).mono ?_
                              rintro e w16 ⟨rfl, icf, Xf, sf, hOf, hgf, hcf⟩
                              clear IH2
                              have HOF := Lib.hid hOf
                              have HGF := Lib.hid (comp HCO2.out.1 HCO2.out.2 (W' := w16) (s3 := sf) hgf ((Chg.ex ((Mix.Ex.refl w14).drewN _)).trans hcf))
                              clear hOf hgf hcf
                              go_wp2_with fail
                              go_ret2
                              rw [HBB2.out]
                              exact ⟨rfl, icf, Xf, sf, HOF.out, HGF.out.1, HGF.out.2⟩
    have hr := rectAt_node hN (i := kk) (by omega)
    have hb2 := area_bound (hsm kk hlt)
    have hsk := hsm kk hlt
    dsimp only at hr
    have hC1 := fun d => contains_c (w1.drewN d) p (3 + kk * 4) b o (X kk).1 sR (hr.of_dr d) (hs.of_dr d)
    have hA1 := fun d => area_c (w1.drewN d) p (3 + kk * 4) (X kk).1 (hr.of_dr d) hsk
    generalize hv : (X kk).1.area = v at hb2 hA1
    have HV := Lib.hid hv
    clear hv hr hsk
    cases hcon : (X kk).1.contains sR
    · rw [hcon] at hC1
      have HCON := Lib.hid hcon
      clear hcon
      go_wp2_with fail
      refine (hC1 _).mono ?_
      rintro e w2 ⟨rfl, d1, rfl⟩
      clear hC1 hA1
      go_wp2_with fail
      clear hc
      go_roundw
      case measure => simp [intOf]; omega
      case rel => exact ⟨kk + 1, jj, aa, by omega, by go_num, quick_out HST.out HCON.out, rfl, rfl, _, rfl⟩
    · rw [hcon] at hC1
      have HCON := Lib.hid hcon
      clear hcon
      go_wp2_with fail
      refine (hC1 _).mono ?_
      rintro e w2 ⟨rfl, d1, rfl⟩
      go_wp2_with fail
      refine (hA1 _).mono ?_
      rintro e w2 ⟨rfl, d2, rfl⟩
      clear hC1 hA1
      go_wp2_with fail
      all_goals
        clear hc
        go_roundw
        case measure => simp [intOf]; omega
        case rel =>
          first
          | exact ⟨kk + 1, kk, v, by omega, by go_num, quick_yes HST.out HCON.out HV.out (by (try simp only [beq_iff_eq, beq_eq_false_iff_ne, Bool.not_eq_true', Bool.not_eq_false', decide_eq_true_eq, decide_eq_false_iff_not, ne_eq] at *); omega), rfl, rfl, _, rfl⟩
          | exact ⟨kk + 1, jj, aa, by omega, by go_num, quick_no HST.out HV.out (by (try simp only [beq_iff_eq, beq_eq_false_iff_ne, Bool.not_eq_true', Bool.not_eq_false', decide_eq_true_eq, decide_eq_false_iff_not, ne_eq] at *); omega), rfl, rfl, _, rfl⟩
end Go.Proofs.Ytboeldlilkeihaa
/- The contract of 'nodeInsert'. -/
namespace Go.Proofs.Ytboeldlilkeihaa
open Go.RowKit Go.Bx
theorem InsC.mono {c : Int} {Z : Nat → Prop} {tr b o : Nat} {sR : R} {x : Int} {h : Nat} {f : R → Nde (El h) → Bool × Bool × Nde (El h)} {P P' : Nde (El h) → Prop} (k : InsC c Z tr b o sR x h f P) (hp : ∀ t, P' t → P t) : InsC c Z tr b o sR x h f P' :=
  fun w p q ic X s rb ro r nd hP => k w p q ic X s rb ro r nd (hp nd hP)
theorem ins_c (c : Int) (Z : Nat → Prop) (tr : Nat) (sR : R) (x : Int) (hsR : sR.small ∧ sR.ok) (b o : Nat) : ∀ h, InsC c Z tr b o sR x h (ins sR x h) (fun _ => True)
  | 0 => ins_zero c Z tr b o sR x
  | h + 1 => by
    have ih := ins_c c Z tr sR x hsR b o h
    have key : ∀ k, InsC c Z tr b o sR x (h + 1) (insB (dfl h) (ins sR x h) sR k) (fun nd => 65 ≤ nd.n + k) := by
      intro k
      induction k with
      | zero =>
        intro w p q ic X s rb ro r nd hP hO hC hW
        have := hW.1
        omega
      | succ k ihk => exact insBranch c Z tr b o sR x hsR h ih k ihk
    exact (key 65).mono fun t _ => by omega
end Go.Proofs.Ytboeldlilkeihaa
