/- The contract of 'nodeDelete' at a leaf. -/
import Derived.Test.YtboeldlilkeihaaDelA
set_option linter.unusedSimpArgs false
set_option linter.unusedVariables false
namespace Go.Proofs.Ytboeldlilkeihaa
open Go.RowKit Go.Bx
theorem findL_no {s : R} {x : Int} {E : Nat → R × Int} {n k : Nat} (hk : k < n) (h : ¬ (s.contains (E k).1 = true ∧ (E k).2 = x)) : findL s x E (n - k) k = findL s x E (n - (k + 1)) (k + 1) := by
  obtain ⟨m, hm⟩ : ∃ m, n - k = m + 1 := ⟨n - k - 1, by omega⟩
  rw [hm, show n - (k + 1) = m by omega, findL, if_neg (by simpa using h)]
theorem findL_yes {s : R} {x : Int} {E : Nat → R × Int} {n k : Nat} (hk : k < n) (h : s.contains (E k).1 = true) (h' : (E k).2 = x) : findL s x E (n - k) k = some k := by
  obtain ⟨m, hm⟩ : ∃ m, n - k = m + 1 := ⟨n - k - 1, by omega⟩
  rw [hm, findL, if_pos (by simp [h, h'])]
set_option maxRecDepth 100000 in
set_option maxHeartbeats 12800000 in
theorem del_zero (c : Int) (Z : Nat → Prop) (tr b o : Nat) (sR : R) (x : Int) (rI : Nat) : DelC c Z tr b o sR x rI 0 (del sR x 0) := by
  intro w p q ic X s rb ro r nd hO hC hW
  obtain ⟨n, E⟩ := nd
  have hE : E = mp An.t X := hO.tE
  have hN : NodeAt w p ⟨ic, true, n, q, fun i => (X i).1⟩ := hO.nx.nd
  have hL : ListAt w q (elT true) (fE (mp An.v X)) := hO.nx.ls
  obtain ⟨G, hG⟩ : Fit true (fE (mp An.v X)) := hO.nx.fit
  have h64 : n ≤ 64 := hO.nx.n64
  have hGx : ∀ j, j < n → (E j).2 = G j := fun j hj => by
    have h1 := (hO.el _ (mem_lst.2 ⟨j, hj, rfl⟩)).1
    have h2 : (X j).2.v = .int .i64 (G j) := congrFun hG j
    rw [h2] at h1
    rw [hE]
    show (X j).2.t = G j
    injection h1 with _ h1
    exact h1.symm
  have hBx : ∀ j, (E j).1 = (X j).1 := fun j => by rw [hE]; rfl
  rw [hG] at hL
  have hs := hC.ins.hs
  have hr := hC.ins.hr
  have hc := hN.cell2
  dsimp only at hc
  have n0 : (0 : Int) ≤ (n : Int) := by omega
  have n1 : (n : Int) ≤ 64 := by omega
  have HO := Lib.hid hO
  have HC := Lib.hid hC
  have HE := Lib.hid hE
  have HG := Lib.hid hG
  have HGX := Lib.hid hGx
  have HBX := Lib.hid hBx
  clear hO hC hE hG hGx hBx hW
  go_enter Try.func97, Try.ntmps97
  go_wp2_with fail
  (refine Mix.wp_region_dr (by kernel_rfl) (by kernel_rfl) ?_; (repeat (go_big_quiet_step (fail))); refine wpQuiet_nil ?_; intro nq)
  go_wp2_with fail
  refine (leaf_c _ _ _ (hN.drewN _)).mono ?_
  rintro e w1 ⟨rfl, hww⟩
  subst hww
  go_wp2_with fail
  refine (items_c _ _ _ (hN.drewN _) rfl).mono ?_
  rintro e w1 ⟨rfl, hww⟩
  subst hww
  go_wp2_with fail
  go_loopw [16] (fun i wr => ∃ kk : Nat, kk ≤ n ∧ i = .int .i64 kk ∧ findL sR x E n 0 = findL sR x E (n - kk) kk ∧ ∃ d, wr = w.drewN d) (fun i _ => n - (intOf i).toNat)
  case atStart => exact ⟨0, by omega, rfl, rfl, _, rfl⟩
  case round =>
    obtain ⟨kk, hk, rfl, hf, d, rfl⟩ := hrel
    have HF := Lib.hid hf
    clear hf
    by_cases hlt : kk < n
    case neg =>
      have hkn : kk = n := by omega
      subst hkn
      go_wp2_with fail
      go_ret2
      have e1 : del sR x 0 r ⟨kk, E⟩ = (false, false, r, ⟨kk, E⟩) := by
        show delL sR x r ⟨kk, E⟩ = _
        unfold delL
        dsimp only
        rw [HF.out, Nat.sub_self, findL]
      rw [e1]
      refine ⟨rfl, ic, X, s, w, d, ?_, HO.out, Grew.refl _ _, Chg.refl _ _, fun _ => HC.out.nil, HC.out.nil.at_ _ _ _ _⟩
      dsimp only
      rw [setRect_self hr]
    have hkb := rectAt_node hN (i := kk) (by omega)
    dsimp only at hkb
    have hC1 := fun d => contains_c (w.drewN d) b o p (3 + kk * 4) sR (X kk).1 (hs.of_dr d) (hkb.of_dr d)
    have hitem := hL.cell (i := kk) (by omega)
    clear hkb
    cases hcon : sR.contains (X kk).1
    · rw [hcon] at hC1
      have HCON := Lib.hid hcon
      clear hcon
      go_wp2_with fail
      refine (hC1 _).mono ?_
      rintro e w2 ⟨rfl, d1, rfl⟩
      clear hC1
      go_wp2_with fail
      clear hc hitem
      go_roundw
      case measure => simp [intOf]; omega
      case rel => exact ⟨kk + 1, by omega, by go_num, by rw [HF.out]; exact findL_no hlt (by rw [HBX.out, HCON.out]; simp), _, rfl⟩
    · rw [hcon] at hC1
      have HCON := Lib.hid hcon
      clear hcon
      obtain ⟨v, hv⟩ : ∃ v, G kk = v := ⟨_, rfl⟩
      rw [hv] at hitem
      have HV := Lib.hid hv
      have hCM := fun w => compare_c v x w
      clear hv
      by_cases e : v = x
      case neg =>
        have hd : decide (v = x) = false := by simp [e]
        rw [hd] at hCM
        clear hd
        go_wp2_with fail
        refine (hC1 _).mono ?_
        rintro e w2 ⟨rfl, d1, rfl⟩
        clear hC1
        go_wp2_with fail
        refine (hCM _).mono ?_
        rintro e w2 ⟨rfl, hww⟩
        subst hww
        clear hCM
        go_wp2_with fail
        clear hc hitem
        go_roundw
        case measure => simp [intOf]; omega
        case rel => exact ⟨kk + 1, by omega, by go_num, by rw [HF.out]; exact findL_no hlt (by rw [HGX.out kk hlt, HV.out]; exact fun h => e h.2), _, rfl⟩
      subst e
      have hd : decide (v = v) = true := by simp
      rw [hd] at hCM
      clear hd
      go_wp2_with fail
      refine (hC1 _).mono ?_
      rintro e w2 ⟨rfl, d1, rfl⟩
      clear hC1
      go_wp2_with fail
      refine (hCM _).mono ?_
      rintro e w2 ⟨rfl, hww⟩
      subst hww
      clear hCM hitem
      as_aux_lemma =>
      have own := HO.out
      have ctx := HC.out
      have hpq := own.nx.pq
      have hqp := hpq.symm
      have hrp : rb ≠ p := fun h => ctx.ins.rs (h ▸ own.ow.sp)
      have hrq : rb ≠ q := fun h => ctx.ins.rs (h ▸ own.ow.sq)
      have hbp : b ≠ p := fun h => ctx.ins.bs (h ▸ own.ow.sp)
      have hbq : b ≠ q := fun h => ctx.ins.bs (h ▸ own.ow.sq)
      have htp : tr ≠ p := fun h => ctx.ins.ts (h ▸ own.ow.sp)
      have htq : tr ≠ q := fun h => ctx.ins.ts (h ▸ own.ow.sq)
      have hf0 : Fit true (fun k => .int .i64 (G k)) := ⟨G, rfl⟩
      obtain ⟨k1, hk1⟩ : ∃ k1, kk + 1 = k1 := ⟨_, rfl⟩
      obtain ⟨m, hm⟩ : ∃ m, n = m + 1 := ⟨n - 1, by omega⟩
      have j1 : (kk : Int) + 1 = k1 := by omega
      have j2 : (n : Int) - 1 = m := by omega
      have b0 : (0 : Int) ≤ kk := by omega
      have b1 : (kk : Int) ≤ n := by omega
      have b3 : (k1 : Int) ≤ n := by omega
      have b5 : kk < 64 := by omega
      have b6 : (0 : Int) ≤ m := by omega
      have b7 : (m : Int) < 64 := by omega
      have b8 : m < 64 := by omega
      have hkm : Nat.min (n - k1) (n - kk) = n - k1 := by exact Nat.min_eq_left (by omega)
      obtain ⟨d', a1, a2, d1', mv⟩ := slot_end2 p q kk k1 (n - k1) (by omega) (by omega)
      have d2 : kk + (n - k1) ≤ 64 := by omega
      have MV := Lib.hid (mv (fun j => (X j).1))
      have MW := Lib.hid (mv (fun j => Value.int .i64 (G j)))
      have HK1 := Lib.hid hk1
      have HM := Lib.hid hm
      clear hk1 hm mv own ctx
      go_wp2_with fail
      (refine Mix.wp_region_drw 19 [0] (by kernel_rfl) (by kernel_rfl) ?_; simp only [List.take_succ_cons, List.take_zero, List.drop_succ_cons, List.drop_zero]; (repeat (go_big_quiet_step (fail))); refine wpQuiet_nil ?_)
      (try simp only [World.drewN_drewN])
      refine Mix.wpTl_copy (.tmp 59) (.tmp 69) 129 129 rfl (.slice (some ⟨p, 3 + kk * 4, none⟩) (n - kk) (64 - kk)) (.slice (some ⟨p, 3 + d' * 4, none⟩) (n - k1) (64 - k1)) _ _ rfl rfl (copyR_at hN _ kk _ _ d' _ _ (n - k1) hkm d2 d1') trivial ?_
      (simp only [Act.put, List.setIfInBounds_toArray, List.set_cons_zero, List.set_cons_succ, List.take_succ_cons, List.take_zero, List.drop_succ_cons, List.drop_zero])
      (refine wpQuiet_nil ?_; intro nq)
      rw [MV.out]
      have hN1 : NodeAt (w.putN p ⟨ic, true, n, q, mv2 (fun i => (X i).1) (fun i => (X i).1) kk k1 (n - k1)⟩) p _ := NodeAt.put _ hN.lt
      have hL1 := hL.putN_other (M := ⟨ic, true, n, q, mv2 (fun i => (X i).1) (fun i => (X i).1) kk k1 (n - k1)⟩) hpq
      have hC1 : Chg (fun k => k = p ∨ k = q) w (w.putN p ⟨ic, true, n, q, mv2 (fun i => (X i).1) (fun i => (X i).1) kk k1 (n - k1)⟩) := (Chg.refl _ _).putN (.inl (.inl rfl)) _
      clear hN hL hc
      generalize hw1 : (w.putN p ⟨ic, true, n, q, mv2 (fun i => (X i).1) (fun i => (X i).1) kk k1 (n - k1)⟩) = w1 at hN1 hL1 hC1 ⊢
      have hc := hN1.cell2
      dsimp only at hc
      go_wp2_with fail
      (refine Mix.wp_region_drw 15 [0] (by kernel_rfl) (by kernel_rfl) ?_; simp only [List.take_succ_cons, List.take_zero, List.drop_succ_cons, List.drop_zero]; (repeat (go_big_quiet_step (fail))); refine wpQuiet_nil ?_)
      (try simp only [World.drewN_drewN])
      refine Mix.wpTl_copy (.tmp 77) (.tmp 85) 43 43 rfl (.slice (some ⟨q, kk, none⟩) (n - kk) (64 - kk)) (.slice (some ⟨q, d', none⟩) (n - k1) (64 - k1)) _ _ rfl rfl (copyL_at (b := true) hL1 hf0 _ kk _ _ d' _ _ (n - k1) hkm d2 d1') trivial ?_
      (simp only [Act.put, List.setIfInBounds_toArray, List.set_cons_zero, List.set_cons_succ, List.take_succ_cons, List.take_zero, List.drop_succ_cons, List.drop_zero])
      (refine wpQuiet_nil ?_; intro nq)
      rw [MW.out]
      obtain ⟨rc, hrc⟩ : ∃ rc, shiftL (fun j => (X j).1) kk n = rc := ⟨_, rfl⟩
      obtain ⟨f, hff⟩ : ∃ f, shiftL (fun j => Value.int .i64 (G j)) kk n = f := ⟨_, rfl⟩
      have e1 : mv2 (fun j => (X j).1) (fun j => (X j).1) kk k1 (n - k1) = rc := by rw [← hrc, ← HK1.out, mv2_down]
      have e2 : mv2 (fun j => Value.int .i64 (G j)) (fun j => Value.int .i64 (G j)) kk k1 (n - k1) = f := by rw [← hff, ← HK1.out, mv2_down]
      have hN2 := hN1.putL_other (T := elT true) (f := mv2 (fun j => Value.int .i64 (G j)) (fun j => Value.int .i64 (G j)) kk k1 (n - k1)) hqp
      have hL2 : ListAt (w1.putL q (elT true) (mv2 (fun j => Value.int .i64 (G j)) (fun j => Value.int .i64 (G j)) kk k1 (n - k1))) q (elT true) _ := ListAt.put _ _ hL1.lt
      have hC2 := hC1.putL (q := q) (.inl (.inr rfl)) (elT true) (mv2 (fun j => Value.int .i64 (G j)) (fun j => Value.int .i64 (G j)) kk k1 (n - k1))
      rw [e1] at hN2
      rw [e2] at hN2 hL2 hC2 ⊢
      clear hN1 hL1 hC1 e1 e2 hw1 hc
      generalize (w1.putL q (elT true) f) = w3 at hN2 hL2 hC2 ⊢
      have HRC := Lib.hid hrc
      have HFF := Lib.hid hff
      have hs3 := hC2.rect hs (by simp; omega)
      have hr3 := hC2.rect hr (by simp; omega)
      have t73 := hC2.cell HC.out.ins.t7 (by simp; omega)
      obtain ⟨w4, rfl, hp4, hq4, hcl, -, -⟩ := hN2.opn3 hL2
      have t74 : w4.cell? ⟨tr, 7, none⟩ = some (.int .i64 0) := by rw [hcl]; exact t73
      have HC2 := Lib.hid hC2
      have HS3 := Lib.hid hs3
      have HR3 := Lib.hid hr3
      clear hN2 hL2 hC2 hs3 hr3 hrc hff t73 hcl hs hr
      go_upto_region 14 with (fail)
      rw [setCnt_mk]
      have n5 : NodeAt ((w4.putN p ⟨ic, true, (m : Nat), q, rc⟩).putL q (elT true) (Bx.upd f m (.int .i64 0))) p ⟨ic, true, (m : Nat), q, rc⟩ := (NodeAt.put _ hp4).putL_other hqp
      have l5 : ListAt ((w4.putN p ⟨ic, true, (m : Nat), q, rc⟩).putL q (elT true) (Bx.upd f m (.int .i64 0))) q (elT true) (Bx.upd f m (.int .i64 0)) := ListAt.put _ _ (by simp; exact hq4)
      have c5 := (HC2.out.putN (p := p) (.inl (.inl rfl)) ⟨ic, true, (m : Nat), q, rc⟩).putL (q := q) (.inl (.inr rfl)) (elT true) (Bx.upd f m (.int .i64 0))
      rw [World.reput _ hqp] at c5
      clear HC2 HS3 HR3 t74
      generalize ((w4.putN p ⟨ic, true, (m : Nat), q, rc⟩).putL q (elT true) (Bx.upd f m (.int .i64 0))) = w5 at n5 l5 c5 ⊢
      have own := HO.out
      have ctx := HC.out
      have hm := HM.out
      have en : n - 1 = m := by omega
      have eF : fE (mp An.v (dropE (zAn 0) X kk n)) = Bx.upd f m (.int .i64 0) := by
        rw [drop_snd, HG.out, HFF.out, en]; rfl
      have n5' : NodeAt w5 p ⟨ic, true, (n - 1 : Nat), q, fun j => (dropE (zAn 0) X kk n j).1⟩ := by rw [drop_fst, HRC.out, en]; exact n5
      have l5' : ListAt w5 q (elT true) (fE (mp An.v (dropE (zAn 0) X kk n))) := by rw [eF]; exact l5
      have f5' : Fit true (fE (mp An.v (dropE (zAn 0) X kk n))) := by
        rw [eF, ← HFF.out]
        exact ⟨Bx.upd (shiftL G kk n) m 0, by funext j; simp only [Bx.upd, shiftL]; split; rfl; split <;> rfl⟩
      obtain ⟨own5, chg5⟩ := own.drop hlt ctx.ins.sZ c5 n5' l5' f5'
      have hs5 := c5.rect ctx.ins.hs (by simp; omega)
      have hr5 := c5.rect ctx.ins.hr (by simp; omega)
      have hfr : OpenAt w5 rb ro := by
        have hb := c5.block rb ctx.ins.hr.lt (by simp; omega)
        have hz : ∀ o, w5.frozen? ⟨rb, o, none⟩ = w.frozen? ⟨rb, o, none⟩ := fun o => by unfold World.frozen?; rw [hb]
        obtain ⟨f0, f1, f2, f3⟩ := ctx.fr
        exact ⟨(hz _).trans f0, (hz _).trans f1, (hz _).trans f2, (hz _).trans f3⟩
      have hnil : ReNil w5 rI := ctx.nil.chg chg5 ctx.rs
      have hcrI : Chg (fun b => b = p ∨ b = q) w w5 := c5
      have e1 : del sR v 0 r ⟨n, E⟩ = (if sR.onedge r then (true, true, bnd ⟨n - 1, dropE (dfl 0) E kk n⟩, ⟨n - 1, dropE (dfl 0) E kk n⟩) else (true, false, r, ⟨n - 1, dropE (dfl 0) E kk n⟩)) := by
        show delL sR v r ⟨n, E⟩ = _
        unfold delL
        dsimp only
        rw [HF.out, findL_yes hlt (by rw [HBX.out]; exact HCON.out) (by rw [HGX.out kk hlt]; exact HV.out)]
        rfl
      have hOE := fun d => onedge_c (w5.drewN d) b o rb ro sR r (hs5.of_dr d) (hr5.of_dr d)
      have HE1 := Lib.hid e1
      have HOW := Lib.hid own5
      have HCH := Lib.hid chg5
      have HNI := Lib.hid hnil
      have HR5 := Lib.hid hr5
      have HFR := Lib.hid hfr
      have kn : NodeAt w5 p ⟨ic, true, (m : Nat), q, fun j => (dropE (zAn 0) X kk n j).1⟩ := by rw [drop_fst, HRC.out]; exact n5
      clear own ctx hm eF n5' l5' f5' own5 chg5 hs5 hr5 hfr hnil hcrI e1 c5 n5 l5
      cases hon : sR.onedge r with
      | false =>
        rw [hon] at hOE
        have HON := Lib.hid hon
        clear hon
        go_wp2_with fail
        refine (hOE _).mono ?_
        rintro e w6 ⟨rfl, d6, rfl⟩
        clear hOE
        go_wp2_with fail
        go_ret2
        rw [HE1.out, HON.out, if_neg (by simp)]
        have hS : ∀ k, w5.drewN k = (setRect w5 rb ro r).drewN k := fun k => by rw [setRect_self HR5.out]
        exact ⟨rfl, ic, _, s, w5, _, hS _, HOW.out, Grew.refl _ _, HCH.out.mono fun b hb => .inl hb, nofun, HNI.out.at_ _ _ _ _⟩
      | true =>
        rw [hon] at hOE
        have HON := Lib.hid hon
        have hRR := fun d => noderect_c (w5.drewN d) p _ m (kn.drewN d) rfl (by omega)
        dsimp only at hRR
        clear hon
        go_wp2_with fail
        refine (hOE _).mono ?_
        rintro e w6 ⟨rfl, d6, rfl⟩
        clear hOE
        go_wp2_with fail
        refine (hRR _).mono ?_
        rintro e w6 ⟨⟨br, hbr, rfl⟩, hx6⟩
        have hx6' : Mix.Ex w5 w6 := ((Mix.Ex.refl w5).drewN _).trans hx6
        have hr6 := HR5.out.of_ex hx6'
        have hf6 := HFR.out.of_ex HR5.out.lt hx6'
        obtain ⟨g0, g1, g2, g3⟩ := id hr6
        obtain ⟨f0, f1, f2, f3⟩ := id hf6
        have HBR := Lib.hid hbr
        have HX6 := Lib.hid hx6'
        clear hRR hx6 hx6' hr6 hf6 hbr
        go_wp2_with fail
        go_ret2
        rw [HE1.out, HON.out]
        have ebr : bnd (⟨n - 1, dropE (dfl 0) E kk n⟩ : Nde Int) = br := by
          rw [HBR.out]
          unfold bnd
          have : (fun i => (dropE (dfl 0) E kk n i).1) = fun j => (dropE (zAn 0) X kk n j).1 := by
            rw [drop_fst, drop_fst, HE.out]; rfl
          dsimp only
          rw [this, en]
        have hcc := Chg.ex (S := fun _ : Nat => False) HX6.out
        refine ⟨rfl, ic, _, s, w6, 0, ?_, HOW.out.frame (fun b hb => hb.elim) hcc (fun b hb => hb.elim), Grew.refl _ _, (HCH.out.trans (Chg.ex HX6.out)).mono fun b hb => .inl hb, nofun, (HNI.out.chg hcc (fun h => h)).at_ _ _ _ _⟩
        show _ = (setRect w6 rb ro (bnd _)).drewN 0
        rw [ebr]
        rfl
end Go.Proofs.Ytboeldlilkeihaa
