/- Nearby: its walk. -/
import Derived.Test.YtboeldlilkeihaaNbG
set_option linter.unusedSimpArgs false
set_option linter.unusedVariables false
namespace Go.Proofs.Ytboeldlilkeihaa
open Go.RowKit Go.Bx
attribute [local go_sem] run_store_fl
set_option maxRecDepth 100000 in
set_option maxHeartbeats 12800000 in
theorem nearby_c {c : Int} {Z : Nat → Prop} {w0 : World} {tr : Nat} {T : Tre} {cw : Value} {s : Nat → Prop} (hM : TreeM c Z w0 tr T cw s) (hO : TreOk T) (hTl : (itT T).length ≤ 900000) (b : R) (hb : b.small) (w : World) (base pb pd pf pn Bb mx : Nat)
    (hC : Coll3 w base pb pd pf []) (hnn : w.heap[pn]? = some (.cells #[.int .i64 (mx : Int)] 3 (0, 0))) (hbb : w.heap[Bb]? = some (.cells (boxV b).toArray 71 (0, 0))) (hx : Mix.Ex w0 w) (hpb : w0.heap.size ≤ pb) (hpd : w0.heap.size ≤ pd) (hpf : w0.heap.size ≤ pf)
    (hpn : pn < base ∧ pn ≠ pb ∧ pn ≠ pd ∧ pn ≠ pf) (hBb : Bb < base ∧ Bb ≠ pb ∧ Bb ≠ pd ∧ Bb ≠ pf) :
    Calls Try.prog 57 #[.pointer (some ⟨tr, 0, none⟩), .func (.func 58) #[] #[.pointer (some ⟨Bb, 0, none⟩)], .func (.func 61) #[] #[.pointer (some ⟨pd, 0, none⟩), .pointer (some ⟨pn, 0, none⟩), .pointer (some ⟨pb, 0, none⟩), .pointer (some ⟨pf, 0, none⟩)]] w
      fun e w' => e = .returned (.tuple #[]) ∧ ∃ (O : List ((R × Int) × Nat)) (rest : List (R × Int)), Coll3 w' base pb pd pf O ∧ Near (dst b) O rest (itT T) ∧ (rest = [] ∨ O.length = mx) ∧ O.length ≤ mx ∧ Mix.Ex w0 w' := by
  obtain ⟨rt, hTr, hR⟩ := hM.at_
  have hbs := hC.bs
  have hlb := hC.lb
  have hTw := hTr.ex hx
  unfold TreeAt at hTw
  obtain ⟨cnt, rc, root⟩ := T
  dsimp only at hR hTw
  cases root with
  | none =>
    obtain ⟨rfl, -⟩ := hR
    have hi : itT ⟨cnt, rc, none⟩ = [] := rfl
    rw [hi]
    have h6 : w.cell? ⟨tr, 6, none⟩ = some (.pointer none) := by rw [cellOf hTw]; rfl
    clear hTw hTr hM hO hTl hi
    go_enter Try.func57, Try.ntmps57
    go_wp2_with fail
    refine bodyPost_ret (results_none rfl _ _ _) rfl ?_
    exact ⟨rfl, [], [], hC, ⟨by simp, by simp, fun o ho => (by cases ho), fun o ho => (by cases ho)⟩, .inl rfl, by simp, hx⟩
  | some qq =>
    have hRO : RootOk qq.1 rc qq.2 := hO.1
    obtain ⟨h, t⟩ := qq
    have hE : ElAt c Z w0 (h + 1) rt t s := hR
    obtain ⟨p, rfl⟩ := hE.ptr
    obtain ⟨hr1, hr2, hr3⟩ := hRO
    dsimp only at hr1 hr2 hr3
    have hi : itT ⟨cnt, rc, some ⟨h, t⟩⟩ = itsN h t := rfl
    rw [hi] at hTl ⊢
    have G0 : Hid (GoodQ c Z w0 b ⟨0, rc, 0, some ⟨p, 0, none⟩, itsN h t, wtN h t⟩) := Lib.hid (.inr ⟨h, t, s, p, rfl, hE, hr3, hr1, rfl, rfl, (by show (0 : Nat) < 2 ^ 53; decide), fun _ _ => Nat.zero_le _⟩)
    have N0 : Hid (Near (dst b) [] (itsN h t) (itsN h t)) := Lib.hid ⟨by simp, by simp, fun o ho => (by cases ho), fun o ho => (by cases ho)⟩
    generalize itsN h t = L0 at hTl G0 N0 ⊢
    generalize wtN h t = W0 at G0
    clear hr1 hr2 hr3 hE hR hM hO hi
    have hxa := (Mix.Ex.refl w).alloc (.cells #[.slice none 0 0] 123)
    have n6 := heap_alloc_new w (.cells #[.slice none 0 0] 123)
    have hC1 := hC.ex hxa
    have hnn1 := hxa.obj hnn
    have hbb1 := hxa.obj hbb
    have hx1 := hx.trans hxa
    have hT1 := hxa.obj hTw
    have h6 : w.cell? ⟨tr, 6, none⟩ = some (.pointer (some ⟨p, 0, none⟩)) := by rw [cellOf hTw]; rfl
    clear hTw
    go_enter Try.func57, Try.ntmps57
    go_upto_region 2 with (fail)
    change Code.wp _ _ _ _ (w.alloc (.cells #[.slice none 0 0] 123))
    obtain ⟨B6, hB6⟩ : ∃ B6, w.heap.size = B6 := ⟨_, rfl⟩
    rw [hB6] at n6 hbs ⊢
    generalize (w.alloc (.cells #[.slice none 0 0] 123)) = w1 at hxa n6 hC1 hnn1 hbb1 hx1 hT1 ⊢
    have h06 : w0.heap.size ≤ B6 := by omega
    have hQ1 : QAt w1 B6 B6 [] := ⟨Nat.le_refl _, _, n6, .nil qnV_len⟩
    have hPush : ∀ m, Calls Try.prog 74 #[.pointer (some ⟨B6, 0, none⟩), .agg #[.float .f64 0, .int .i64 rc.x0, .int .i64 rc.y0, .int .i64 rc.x1, .int .i64 rc.y1, .int .i64 0, .pointer (some ⟨p, 0, none⟩)]] (w1.drewN m) fun e w' => e = .returned (.tuple #[]) ∧ ∃ L', L'.Perm [⟨0, rc, 0, some ⟨p, 0, none⟩, L0, W0⟩] ∧ IsHeap QN.d L' ∧ QAt w' B6 B6 L' ∧ Mix.Ex w0 w' ∧ KpQ (w1.drewN m) w' :=
      fun m => push_c w0 (w1.drewN m) B6 B6 [] ⟨0, rc, 0, some ⟨p, 0, none⟩, L0, W0⟩ (hQ1.ex ((Mix.Ex.refl w1).drewN m)) (by simp) (fun y hy => by cases hy) (by show (0 : Nat) < 2 ^ 53; decide) (fun t h1 h2 => by simp at h2) (hx1.drewN m) h06
    have HTR := Lib.hid (hx.obj hTr)
    have t2 : w1.cell? ⟨tr, 2, none⟩ = some (.int .i64 rc.x0) := by rw [cellOf hT1]; rfl
    have t3 : w1.cell? ⟨tr, 3, none⟩ = some (.int .i64 rc.y0) := by rw [cellOf hT1]; rfl
    have t4 : w1.cell? ⟨tr, 4, none⟩ = some (.int .i64 rc.x1) := by rw [cellOf hT1]; rfl
    have t5 : w1.cell? ⟨tr, 5, none⟩ = some (.int .i64 rc.y1) := by rw [cellOf hT1]; rfl
    have t6 : w1.cell? ⟨tr, 6, none⟩ = some (.pointer (some ⟨p, 0, none⟩)) := by rw [cellOf hT1]; rfl
    have HC1 := Lib.hid hC1
    have HNN1 := Lib.hid hnn1
    have HBB1 := Lib.hid hbb1
    have HTR0 := Lib.hid hTr
    clear hT1 hC hnn hbb hx hxa n6 hC1 hnn1 hbb1 hx1 hQ1 hTr h6 HTR
    (refine Mix.wp_region_drw 10 [0] (by kernel_rfl) (by kernel_rfl) ?_; simp only [List.take_succ_cons, List.take_zero, List.drop_succ_cons, List.drop_zero]; (repeat (go_big_quiet_step (fail))); refine wpQuiet_nil ?_)
    (refine Mix.wpTl_dr (fun n K hK => ?_); go_simp)
    refine (hPush _).mono ?_
    rintro e w2 ⟨rfl, L', hp', hh', hq', hx', hk'⟩
    refine ⟨_, rfl, _, Mix.Dr.refl _, hK _ _ trivial ?_⟩
    (clear hK K; simp only [Act.put, List.setIfInBounds_toArray, List.set_cons_zero, List.set_cons_succ, List.take_succ_cons, List.take_zero, List.drop_succ_cons, List.drop_zero])
    (repeat (go_big_quiet_step (fail)))
    (refine wpQuiet_nil ?_; intro nq)
    have e2 := (Mix.Ex.refl w2).drewN nq
    have hl1 := List.perm_singleton.1 hp'
    subst hl1
    have hk2 := ((KpQ.refl w1).ex ((Mix.Ex.refl w1).drewN _)).trans hk'
    have hS0 : NbSt c Z w0 base pb pd pf pn mx Bb B6 B6 b L0 (w2.drewN nq) [⟨0, rc, 0, some ⟨p, 0, none⟩, L0, W0⟩] [] :=
      ⟨hq'.ex e2, hh', fun x hx => (by rw [List.mem_singleton.1 hx]; exact G0.out), (HC1.out.kpQ hk2).ex e2, e2.obj (hk2.2 _ _ _ _ HNN1.out (by decide) (by decide)), e2.obj (hk2.2 _ _ _ _ HBB1.out (by decide) (by decide)), by simpa using N0.out, fun o ho => (by cases ho), by simp, hx'.trans e2⟩
    have HS0 := Lib.hid hS0
    clear hS0 hq' hh' hk2 hk' hx' hp' e2 hPush t2 t3 t4 t5 t6 HC1 HNN1 HBB1 G0 N0
    generalize w2.drewN nq = w3 at HS0 ⊢
    clear w1 w2
    go_upto_region 3 with (fail)
    go_loopw [8] (fun _ wr => ∃ Q O, NbSt c Z w0 base pb pd pf pn mx Bb B6 B6 b L0 wr Q O) (fun _ wr => leastN (fun W => ∃ Q O, NbSt c Z w0 base pb pd pf pn mx Bb B6 B6 b L0 wr Q O ∧ (Q.map QN.wt).sum = W))
    case atStart => exact ⟨_, _, HS0.out⟩
    case round =>
      clear HS0
      obtain ⟨Q0, O0, hS0⟩ := hrel
      obtain ⟨Q, O, hS, hW⟩ := leastN_spec (p := (fun W => ∃ Q O, NbSt c Z w0 base pb pd pf pn mx Bb B6 B6 b L0 wr Q O ∧ (Q.map QN.wt).sum = W)) ⟨_, Q0, O0, hS0, rfl⟩
      have hlen := hS.len
      have HS := Lib.hid hS
      have HW := Lib.hid hW
      clear hS hW hS0
      by_cases hQ : Q = []
      · subst hQ
        have hP := pop_none wr B6 B6 HS.out.q
        go_wp2_with fail
        refine hP.mono ?_
        rintro e w4 ⟨rfl, hx4⟩
        have hx5 := hx4.alloc (.cells #[.float .f64 0, .int .i64 0, .int .i64 0, .int .i64 0, .int .i64 0, .int .i64 0, .pointer none] 126)
        have HX5 := Lib.hid hx5
        clear hP hx4 hx5
        go_wp2_with fail
        refine bodyPost_ret (results_none rfl _ _ _) rfl ?_
        exact ⟨rfl, O, [], HS.out.co.ex HX5.out, HS.out.nr, .inl rfl, HS.out.on, HS.out.ex.trans HX5.out⟩
      have hP := pop_c w0 wr B6 B6 Q HS.out.q hQ (by omega) (fun y hy => (HS.out.gd y hy).lt hb) HS.out.hp HS.out.ex h06
      go_wp2_with fail
      refine hP.mono ?_
      rintro e w4 ⟨x, Q', rfl, hp4, hm4, hh4, hq4, hx4, hk4⟩
      have hgx := HS.out.gd x (hp4.mem_iff.1 (by simp))
      have hwt : (Q.map QN.wt).sum = x.wt + (Q'.map QN.wt).sum := by
        have h := (hp4.map QN.wt).sum_nat
        rw [← h, List.map_cons, List.sum_cons]
      have hpl : Q.length = Q'.length + 1 := by rw [← hp4.length_eq]; rfl
      have HP4 := Lib.hid hp4
      have HM4 := Lib.hid hm4
      have HH4 := Lib.hid hh4
      have hg4 : Hid (∀ y ∈ Q', GoodQ c Z w0 b y) := Lib.hid fun y hy => HS.out.gd y (HP4.out.mem_iff.1 (List.mem_cons_of_mem _ hy))
      have hxq : Hid (x ∈ Q) := Lib.hid (HP4.out.mem_iff.1 (by simp))
      obtain ⟨xd, xr, xv, xp, xi, xw⟩ := x
      have hxa := (Mix.Ex.refl w4).alloc (.cells #[.float .f64 (floatOfInt .f64 (xd : Int)), .int .i64 xr.x0, .int .i64 xr.y0, .int .i64 xr.x1, .int .i64 xr.y1, .int .i64 xv, .pointer xp] 126)
      have n7 := heap_alloc_new w4 (.cells #[.float .f64 (floatOfInt .f64 (xd : Int)), .int .i64 xr.x0, .int .i64 xr.y0, .int .i64 xr.x1, .int .i64 xr.y1, .int .i64 xv, .pointer xp] 126)
      have hc5 := (HS.out.co.kpQ hk4).ex hxa
      have hn5 := hxa.obj (hk4.2 _ _ _ _ HS.out.nn (by decide) (by decide))
      have hb5 := hxa.obj (hk4.2 _ _ _ _ HS.out.bb (by decide) (by decide))
      have hq5 := hq4.ex hxa
      have hx5 := hx4.trans hxa
      have HWT := Lib.hid hwt
      have HLEN := Lib.hid hlen
      have HPL := Lib.hid hpl
      clear hwt hlen hpl hP hp4 hm4 hh4 hq4 hx4 hk4 hQ
      have hgx := hgx
      go_upto_region 5 with (fail)
      change Code.wp _ _ _ _ (w4.alloc (.cells #[.float .f64 (floatOfInt .f64 (xd : Int)), .int .i64 xr.x0, .int .i64 xr.y0, .int .i64 xr.x1, .int .i64 xr.y1, .int .i64 xv, .pointer xp] 126))
      obtain ⟨B7, hB7⟩ : ∃ B7, w4.heap.size = B7 := ⟨_, rfl⟩
      rw [hB7] at n7 ⊢
      generalize (w4.alloc (.cells #[.float .f64 (floatOfInt .f64 (xd : Int)), .int .i64 xr.x0, .int .i64 xr.y0, .int .i64 xr.x1, .int .i64 xr.y1, .int .i64 xv, .pointer xp] 126)) = w5 at hxa n7 hc5 hn5 hb5 hq5 hx5 ⊢
      have HC5 := Lib.hid hc5
      have HN5 := Lib.hid hn5
      have HB5 := Lib.hid hb5
      have HQ5 := Lib.hid hq5
      have HX5 := Lib.hid hx5
      clear hxa hc5 hn5 hb5 hq5 hx5 hB7 w4
      have a0 := cellOf n7 0
      have a1 := cellOf n7 1
      have a2 := cellOf n7 2
      have a3 := cellOf n7 3
      have a4 := cellOf n7 4
      have a5 := cellOf n7 5
      have a6 := cellOf n7 6
      simp only [List.getElem?_toArray, List.getElem?_cons_zero, List.getElem?_cons_succ] at a0 a1 a2 a3 a4 a5 a6
      clear n7
      rcases hgx with ⟨g1, g2, g3, g4, g5⟩ | ⟨h', t', s', q', g1, hE', hW', hn1, g5, g6, hdlt, hle⟩
      · -- an item
        dsimp only at g1 g2 g3 g4 g5
        subst g1 g2 g4
        have G3 := Lib.hid g3
        clear g3
        by_cases hOn : O.length = mx
        · have hSt := nbStop_c w0 w5 base pb pd pf pn mx O ((xr, xv), xd) HC5.out HN5.out HX5.out hOn
          dsimp only at hSt
          go_wp2_with fail
          refine hSt.mono ?_
          rintro e w6 ⟨rfl, hx6⟩
          clear hSt a0 a1 a2 a3 a4 a5 a6
          go_wp2_with fail
          refine bodyPost_ret (results_none rfl _ _ _) rfl ?_
          exact ⟨rfl, O, Q.flatMap QN.its, HC5.out.ex hx6, HS.out.nr, .inr hOn, HS.out.on, HX5.out.trans hx6⟩
        · have hIt := nbIter_c w0 w5 base pb pd pf pn mx O ((xr, xv), xd) HC5.out HN5.out HX5.out hOn (by have := HLEN.out; omega) hpb hpd hpf
          dsimp only at hIt
          go_wp2_with fail
          refine hIt.mono ?_
          rintro e w6 ⟨rfl, hC6, hx6, hk6⟩
          have hnew : NbSt c Z w0 base pb pd pf pn mx Bb B6 B6 b L0 w6 Q' (O ++ [((xr, xv), xd)]) :=
            ⟨HQ5.out.kpA hk6 hbs, HH4.out, hg4.out, hC6, hk6.2 _ _ _ _ HN5.out (.inl hpn), hk6.2 _ _ _ _ HB5.out (.inl hBb),
              near_tell HS.out.nr HP4.out HM4.out HS.out.gd rfl G3.out, fun o ho y hy => by
                rcases List.mem_append.1 ho with ho | ho
                · exact HS.out.le o ho y (HP4.out.mem_iff.1 (List.mem_cons_of_mem _ hy))
                · rw [List.mem_singleton.1 ho]; exact HM4.out y hy,
              by rw [List.length_append, List.length_singleton]; have := HS.out.on; omega, hx6⟩
          have HNEW := Lib.hid hnew
          clear hnew hC6 hx6 hk6 hIt a0 a1 a2 a3 a4 a5 a6
          go_wp2_with fail
          go_roundw
          case measure =>
            refine Nat.lt_of_le_of_lt (leastN_le ⟨_, _, HNEW.out, rfl⟩) ?_
            rw [← HW.out, HWT.out]
            show _ < 1 + _
            omega
          case rel => exact ⟨_, _, HNEW.out⟩
      · -- a node
        dsimp only at g1 g5 g6 hdlt hle
        subst g1 g5 g6
        cases h' with
        | zero =>
          obtain ⟨p', ql, ic, X, hv, ⟨hN, hL, -, hpq, hn64⟩, hTE, hel, -⟩ := hE'
          obtain ⟨nn, E⟩ := t'
          dsimp only at hN hL hn64 hTE hel hle hn1
          subst hTE
          simp only [Value.pointer.injEq, Option.some.injEq, Addr.mk.injEq, and_true] at hv
          subst hv
          dsimp only [leafB] at hN hL
          have hkg : Hid (∀ x ∈ (lst nn X).map (kidL b), GoodQ c Z w0 b x) := Lib.hid (kidL_good b hW')
          have hkl : Hid (∀ x ∈ (lst nn X).map (kidL b), xd ≤ x.d) := Lib.hid fun x hx => by
            obtain ⟨e, he, rfl⟩ := List.mem_map.1 hx
            have h1 : (e.1, e.2.t) ∈ lst nn (mp An.t X) := by rw [lst_mp]; exact List.mem_map_of_mem he
            exact hle _ h1
          have hsm : Hid (∀ kk, kk < nn → (X kk).1.small) := Lib.hid fun kk hk => by
            have h1 : ((X kk).1, (X kk).2.t) ∈ lst nn (mp An.t X) := by rw [lst_mp]; exact List.mem_map_of_mem (f := fun e : R × An 0 => (e.1, e.2.t)) (mem_lst.2 ⟨kk, hk, rfl⟩)
            exact (hW'.2 _ h1).small
          have hLb : Hid (O.length + Q'.length + nn ≤ 900000) := Lib.hid (by
            have h1 := len_flat QN.its ((lst nn X).map (kidL b)) fun x hx => (hkg.out x hx).ne
            rw [kidL_its, List.length_map, lst_len] at h1
            have h2 := len_flat QN.its Q' fun x hx => (hg4.out x hx).ne
            have h3 := HS.out.nr.perm.length_eq
            have h4 := (HP4.out.flatMap_right (f := QN.its)).length_eq
            rw [List.flatMap_cons, List.length_append] at h4
            rw [List.length_append, List.length_map] at h3
            dsimp only at h4
            omega)
          have HEL := Lib.hid hel
          have HNN := Lib.hid hN
          have HLL := Lib.hid hL
          clear hle hel hN hL hW' hdlt s'
          have n0 : (0 : Int) ≤ (nn : Int) := by omega
          have n1 : (nn : Int) ≤ 64 := by omega
          have c2 : w5.cell? ⟨q', 2, none⟩ = some (.int .i16 nn) := (HNN.out.ex HX5.out).cell2
          go_upto_region 7 with (fail)
          (refine Mix.wp_region_dr (by kernel_rfl) (by kernel_rfl) ?_; (repeat (go_big_quiet_step (fail))); refine wpQuiet_nil ?_; intro nq)
          have HC6 := Lib.hid (HC5.out.ex ((Mix.Ex.refl w5).drewN nq))
          have HN6 := Lib.hid (((Mix.Ex.refl w5).drewN nq).obj HN5.out)
          have HB6 := Lib.hid (((Mix.Ex.refl w5).drewN nq).obj HB5.out)
          have HQ6 := Lib.hid (HQ5.out.ex ((Mix.Ex.refl w5).drewN nq))
          have HX6 := Lib.hid (HX5.out.drewN nq)
          have a6' : (w5.drewN nq).cell? ⟨B7, 6, none⟩ = _ := a6
          have c2' : (w5.drewN nq).cell? ⟨q', 2, none⟩ = _ := c2
          clear a6 c2
          clear HC5 HN5 HB5 HQ5 HX5 a0 a1 a2 a3 a4 a5
          generalize w5.drewN nq = w6 at HC6 HN6 HB6 HQ6 HX6 a6' c2' ⊢
          have hLf := leaf_c w6 q' _ (HNN.out.ex HX6.out)
          dsimp only at hLf
          go_wp2_with fail
          refine hLf.mono ?_
          rintro e w7 ⟨rfl, rfl⟩
          clear hLf
          have hIt := fun d => items_c (w7.drewN d) q' _ ((HNN.out.ex HX6.out).drewN d) rfl
          dsimp only at hIt
          go_upto_region 9 with (fail)
          (refine Mix.wp_region_dr (by kernel_rfl) (by kernel_rfl) ?_; (repeat (go_big_quiet_step ((go_at_call 76; exact Mix.calls_q (hIt _) ⟨_, rfl⟩)))); refine wpQuiet_nil ?_; intro nq)
          have HC8 := Lib.hid (HC6.out.ex ((Mix.Ex.refl w7).drewN nq))
          have HN8 := Lib.hid (((Mix.Ex.refl w7).drewN nq).obj HN6.out)
          have HB8 := Lib.hid (((Mix.Ex.refl w7).drewN nq).obj HB6.out)
          have HQ8 := Lib.hid (HQ6.out.ex ((Mix.Ex.refl w7).drewN nq))
          have HX8 := Lib.hid (HX6.out.drewN nq)
          clear a6' c2'
          clear HC6 HN6 HB6 HQ6 HX6 hIt
          generalize w7.drewN nq = w8 at HC8 HN8 HB8 HQ8 HX8 ⊢
          go_upto_region 11 with (fail)
          go_loopw [11] (fun i wr => ∃ kk : Nat, kk ≤ nn ∧ i = .int .i64 kk ∧ (∃ Q2, QAt wr B6 B6 Q2 ∧ IsHeap QN.d Q2 ∧ Q2.Perm ((lst kk X).map (kidL b) ++ Q')) ∧ Coll3 wr base pb pd pf O ∧ wr.heap[pn]? = some (.cells #[.int .i64 (mx : Int)] 3 (0, 0)) ∧ wr.heap[Bb]? = some (.cells (boxV b).toArray 71 (0, 0)) ∧ Mix.Ex w0 wr) (fun i _ => nn - (intOf i).toNat)
          case atStart => exact ⟨0, by omega, rfl, ⟨Q', HQ8.out, HH4.out, List.Perm.refl _⟩, HC8.out, HN8.out, HB8.out, HX8.out⟩
          case round =>
            obtain ⟨kk, hkk, rfl, ⟨Q2, hq2, hh2, hp2⟩, hc2, hn2, hb2, hx2⟩ := hrel
            have HQ2 := Lib.hid hq2
            have HH2 := Lib.hid hh2
            have HP2 := Lib.hid hp2
            have HC2 := Lib.hid hc2
            have HN2 := Lib.hid hn2
            have HB2 := Lib.hid hb2
            have HX2 := Lib.hid hx2
            clear hq2 hh2 hp2 hc2 hn2 hb2 hx2 HC8 HN8 HB8 HQ8 HX8
            by_cases hlt : kk < nn
            case neg =>
              have hkn : kk = nn := by omega
              subst hkn
              have hpf2 : (Q2.flatMap QN.its).Perm (Q.flatMap QN.its) := by
                refine (HP2.out.flatMap_right (f := QN.its)).trans ?_
                rw [List.flatMap_append, kidL_its]
                have h := HP4.out.flatMap_right (f := QN.its)
                rw [List.flatMap_cons] at h
                exact h
              have hnew : NbSt c Z w0 base pb pd pf pn mx Bb B6 B6 b L0 wr Q2 O :=
                ⟨HQ2.out, HH2.out, fun y hy => by
                    rcases List.mem_append.1 (HP2.out.mem_iff.1 hy) with h | h
                    · exact hkg.out y h
                    · exact hg4.out y h,
                  HC2.out, HN2.out, HB2.out, HS.out.nr.perm_rest hpf2, fun o ho y hy => by
                    rcases List.mem_append.1 (HP2.out.mem_iff.1 hy) with h | h
                    · exact Nat.le_trans (HS.out.le o ho _ hxq.out) (hkl.out y h)
                    · exact HS.out.le o ho y (HP4.out.mem_iff.1 (List.mem_cons_of_mem _ h)),
                  HS.out.on, HX2.out⟩
              have hws : (Q2.map QN.wt).sum = (((lst kk X).map (kidL b)).map QN.wt).sum + (Q'.map QN.wt).sum := by
                have h := (HP2.out.map QN.wt).sum_nat
                rw [h, List.map_append, List.sum_append]
              have HNEW := Lib.hid hnew
              have HWS := Lib.hid hws
              clear hnew hws hpf2
              go_wp2_with fail
              go_roundw
              case measure =>
                refine Nat.lt_of_le_of_lt (leastN_le ⟨_, _, HNEW.out, rfl⟩) ?_
                have h1 := HWT.out
                try dsimp only at h1
                rw [kidL_wt b] at h1
                rw [← HW.out, h1, HWS.out]
                omega
              case rel => exact ⟨_, _, HNEW.out⟩
            have hNr := HNN.out.ex HX2.out
            have hlr : ListAt wr ql (elT true) (fE (mp An.v X)) := (Chg.ex (S := fun _ => False) HX2.out).list HLL.out (fun h => h)
            have hcl0 := hlr.cell (i := kk) (by omega)
            have hvx : (X kk).2.v = .int .i64 ((X kk).2.t : Int) := (HEL.out (X kk) (mem_lst.2 ⟨kk, hlt, rfl⟩)).1
            have hcl : wr.cell? ⟨ql, kk, none⟩ = some (.int .i64 ((X kk).2.t : Int)) := by rw [hcl0]; show some ((X kk).2.v) = _; rw [hvx]
            have r0 : wr.cell? ⟨q', 3 + kk * 4, none⟩ = some (.int .i64 (X kk).1.x0) := cell_rcell hNr (i := kk) (j := 0) (by omega) (by omega)
            have r1 : wr.cell? ⟨q', 3 + kk * 4 + 1, none⟩ = some (.int .i64 (X kk).1.y0) := cell_rcell hNr (i := kk) (j := 1) (by omega) (by omega)
            have r2 : wr.cell? ⟨q', 3 + kk * 4 + 2, none⟩ = some (.int .i64 (X kk).1.x1) := cell_rcell hNr (i := kk) (j := 2) (by omega) (by omega)
            have r3 : wr.cell? ⟨q', 3 + kk * 4 + 3, none⟩ = some (.int .i64 (X kk).1.y1) := cell_rcell hNr (i := kk) (j := 3) (by omega) (by omega)
            have hsk := hsm.out kk hlt
            have hq2l : Q2.length = kk + Q'.length := by rw [HP2.out.length_eq, List.length_append, List.length_map, lst_len]
            have hkd : ∀ y ∈ Q2, y.d < 2 ^ 53 := fun y hy => by
              rcases List.mem_append.1 (HP2.out.mem_iff.1 hy) with h | h
              · obtain ⟨e, he, rfl⟩ := List.mem_map.1 h
                obtain ⟨i, hi, rfl⟩ := mem_lst.1 he
                exact (hkg.out _ (List.mem_map_of_mem (mem_lst.2 ⟨i, by omega, rfl⟩))).lt hb
              · exact (hg4.out y h).lt hb
            have hkx : (kidL b (X kk)).d < 2 ^ 53 := (hkg.out _ (List.mem_map_of_mem (mem_lst.2 ⟨kk, hlt, rfl⟩))).lt hb
            have hDi := fun (y : Mix.Xt) (d : Int) (it : Bool) => nbDist_c (wr.ext y) Bb b (X kk).1 hb hsk d it (((Mix.Ex.refl wr).ext y).obj HB2.out)
            have hPu := fun y => push_c w0 (wr.ext y) B6 B6 Q2 (kidL b (X kk)) (HQ2.out.ex ((Mix.Ex.refl wr).ext y)) (by have := hLb.out; omega) hkd hkx HH2.out (HX2.out.ext y) h06
            have hsn : (kidL b (X kk) :: Q2).Perm ((lst (kk + 1) X).map (kidL b) ++ Q') := by
              refine (HP2.out.cons _).trans ?_
              rw [lst_succ, List.map_append, List.append_assoc]
              exact (List.perm_middle (l₁ := (lst kk X).map (kidL b))).symm
            dsimp only [kidL, kidB] at hPu hsn
            clear hkd hkx hcl0 hlr hNr hq2l hsk hvx
            generalize (X kk).1 = r at r0 r1 r2 r3 hDi hPu hsn
            generalize hyy : ((X kk).2.t : Int) = yv at hcl hPu hsn
            clear hyy
            have HSN := Lib.hid hsn
            clear hsn
            have hkni : (kk : Int) < nn := by omega
            have hqw : q' < wr.heap.size := World.block_lt_of_cell? wr _ r0
            have hlw : ql < wr.heap.size := World.block_lt_of_cell? wr _ hcl
            go_upto_region 13 with (fail)
            (refine Mix.wp_region_exw 26 [0] (by kernel_rfl) (by kernel_rfl) ?_; simp only [List.take_succ_cons, List.take_zero, List.drop_succ_cons, List.drop_zero]; (repeat (go_big_quiet_step (first | (go_at_call 58; exact Mix.calls_qx (hDi _ _ _) (fun y => ⟨_, World.ext_ext _ _ _⟩))))); refine wpQuiet_nil ?_)
            (refine Mix.wpTl_ex (fun y K hK => ?_); go_simp)
            refine (hPu _).mono ?_
            rintro e w9 ⟨rfl, L9, hp9, hh9, hq9, hx9, hk9⟩
            refine ⟨_, rfl, _, Mix.Ex.refl _, hK _ _ trivial ?_⟩
            (clear hK K; simp only [Act.put, List.setIfInBounds_toArray, List.set_cons_zero, List.set_cons_succ, List.take_succ_cons, List.take_zero, List.drop_succ_cons, List.drop_zero])
            (repeat (go_big_quiet_step (fail)))
            (refine wpQuiet_nil ?_; intro nq)
            have e9 := (Mix.Ex.refl w9).ext nq
            have f9 := fun y => (Mix.Ex.refl wr).ext y
            have HQ9 := Lib.hid (hq9.ex e9)
            have HH9 := Lib.hid hh9
            have HP9 := Lib.hid (hp9.trans HSN.out)
            have HC9 := Lib.hid (((HC2.out.ex (f9 _)).kpQ hk9).ex e9)
            have HN9 := Lib.hid (e9.obj (hk9.2 _ _ _ _ ((f9 _).obj HN2.out) (by decide) (by decide)))
            have HB9 := Lib.hid (e9.obj (hk9.2 _ _ _ _ ((f9 _).obj HB2.out) (by decide) (by decide)))
            have HX9 := Lib.hid (hx9.trans e9)
            clear hp9 hh9 hq9 hx9 hk9 e9 f9 hPu hDi r0 r1 r2 r3 hcl hqw hlw hkni
            go_wp2_with fail
            go_roundw
            case measure => simp [intOf]; omega
            case rel => exact ⟨kk + 1, by omega, by go_num, ⟨L9, HQ9.out, HH9.out, HP9.out⟩, HC9.out, HN9.out, HB9.out, HX9.out⟩
        | succ h1 =>
          obtain ⟨p', ql, ic, X, hv, ⟨hN, hL, -, hpq, hn64⟩, hTE, hel, -⟩ := hE'
          obtain ⟨nn, E⟩ := t'
          dsimp only at hN hL hn64 hTE hel hle hn1
          subst hTE
          simp only [Value.pointer.injEq, Option.some.injEq, Addr.mk.injEq, and_true] at hv
          subst hv
          dsimp only [leafB] at hN hL
          have hkg : Hid (∀ x ∈ (lst nn X).map (kidB b), GoodQ c Z w0 b x) := Lib.hid (kidB_good b hb hW' hel)
          have hkl : Hid (∀ x ∈ (lst nn X).map (kidB b), xd ≤ x.d) := Lib.hid fun x hx => by
            obtain ⟨e, he, rfl⟩ := List.mem_map.1 hx
            have h1 : (e.1, e.2.t) ∈ lst nn (mp An.t X) := by rw [lst_mp]; exact List.mem_map_of_mem he
            exact hle _ h1
          have hsm : Hid (∀ kk, kk < nn → (X kk).1.small) := Lib.hid fun kk hk => by
            have h1 : ((X kk).1, (X kk).2.t) ∈ lst nn (mp An.t X) := by rw [lst_mp]; exact List.mem_map_of_mem (f := fun e : R × An (h1 + 1) => (e.1, e.2.t)) (mem_lst.2 ⟨kk, hk, rfl⟩)
            exact (hW'.2 _ h1).small
          have hLb : Hid (O.length + Q'.length + nn ≤ 900000) := Lib.hid (by
            have h1 := len_flat QN.its ((lst nn X).map (kidB b)) fun x hx => (hkg.out x hx).ne
            rw [kidB_its, List.length_map, lst_len] at h1
            have h2 := len_flat QN.its Q' fun x hx => (hg4.out x hx).ne
            have h3 := HS.out.nr.perm.length_eq
            have h4 := (HP4.out.flatMap_right (f := QN.its)).length_eq
            rw [List.flatMap_cons, List.length_append] at h4
            rw [List.length_append, List.length_map] at h3
            dsimp only at h4
            omega)
          have HEL := Lib.hid hel
          have HNN := Lib.hid hN
          have HLL := Lib.hid hL
          clear hle hel hN hL hW' hdlt s'
          have n0 : (0 : Int) ≤ (nn : Int) := by omega
          have n1 : (nn : Int) ≤ 64 := by omega
          have c2 : w5.cell? ⟨q', 2, none⟩ = some (.int .i16 nn) := (HNN.out.ex HX5.out).cell2
          go_upto_region 7 with (fail)
          (refine Mix.wp_region_dr (by kernel_rfl) (by kernel_rfl) ?_; (repeat (go_big_quiet_step (fail))); refine wpQuiet_nil ?_; intro nq)
          have HC6 := Lib.hid (HC5.out.ex ((Mix.Ex.refl w5).drewN nq))
          have HN6 := Lib.hid (((Mix.Ex.refl w5).drewN nq).obj HN5.out)
          have HB6 := Lib.hid (((Mix.Ex.refl w5).drewN nq).obj HB5.out)
          have HQ6 := Lib.hid (HQ5.out.ex ((Mix.Ex.refl w5).drewN nq))
          have HX6 := Lib.hid (HX5.out.drewN nq)
          have a6' : (w5.drewN nq).cell? ⟨B7, 6, none⟩ = _ := a6
          have c2' : (w5.drewN nq).cell? ⟨q', 2, none⟩ = _ := c2
          clear a6 c2
          clear HC5 HN5 HB5 HQ5 HX5 a0 a1 a2 a3 a4 a5
          generalize w5.drewN nq = w6 at HC6 HN6 HB6 HQ6 HX6 a6' c2' ⊢
          have hLf := leaf_c w6 q' _ (HNN.out.ex HX6.out)
          dsimp only at hLf
          go_wp2_with fail
          refine hLf.mono ?_
          rintro e w7 ⟨rfl, rfl⟩
          clear hLf
          have hIt := fun d => children_c (w7.drewN d) q' _ ((HNN.out.ex HX6.out).drewN d) rfl
          dsimp only at hIt
          go_upto_region 14 with (fail)
          (refine Mix.wp_region_dr (by kernel_rfl) (by kernel_rfl) ?_; (repeat (go_big_quiet_step ((go_at_call 63; exact Mix.calls_q (hIt _) ⟨_, rfl⟩)))); refine wpQuiet_nil ?_; intro nq)
          have HC8 := Lib.hid (HC6.out.ex ((Mix.Ex.refl w7).drewN nq))
          have HN8 := Lib.hid (((Mix.Ex.refl w7).drewN nq).obj HN6.out)
          have HB8 := Lib.hid (((Mix.Ex.refl w7).drewN nq).obj HB6.out)
          have HQ8 := Lib.hid (HQ6.out.ex ((Mix.Ex.refl w7).drewN nq))
          have HX8 := Lib.hid (HX6.out.drewN nq)
          clear a6' c2'
          clear HC6 HN6 HB6 HQ6 HX6 hIt
          generalize w7.drewN nq = w8 at HC8 HN8 HB8 HQ8 HX8 ⊢
          go_upto_region 16 with (fail)
          go_loopw [13] (fun i wr => ∃ kk : Nat, kk ≤ nn ∧ i = .int .i64 kk ∧ (∃ Q2, QAt wr B6 B6 Q2 ∧ IsHeap QN.d Q2 ∧ Q2.Perm ((lst kk X).map (kidB b) ++ Q')) ∧ Coll3 wr base pb pd pf O ∧ wr.heap[pn]? = some (.cells #[.int .i64 (mx : Int)] 3 (0, 0)) ∧ wr.heap[Bb]? = some (.cells (boxV b).toArray 71 (0, 0)) ∧ Mix.Ex w0 wr) (fun i _ => nn - (intOf i).toNat)
          case atStart => exact ⟨0, by omega, rfl, ⟨Q', HQ8.out, HH4.out, List.Perm.refl _⟩, HC8.out, HN8.out, HB8.out, HX8.out⟩
          case round =>
            obtain ⟨kk, hkk, rfl, ⟨Q2, hq2, hh2, hp2⟩, hc2, hn2, hb2, hx2⟩ := hrel
            have HQ2 := Lib.hid hq2
            have HH2 := Lib.hid hh2
            have HP2 := Lib.hid hp2
            have HC2 := Lib.hid hc2
            have HN2 := Lib.hid hn2
            have HB2 := Lib.hid hb2
            have HX2 := Lib.hid hx2
            clear hq2 hh2 hp2 hc2 hn2 hb2 hx2 HC8 HN8 HB8 HQ8 HX8
            by_cases hlt : kk < nn
            case neg =>
              have hkn : kk = nn := by omega
              subst hkn
              have hpf2 : (Q2.flatMap QN.its).Perm (Q.flatMap QN.its) := by
                refine (HP2.out.flatMap_right (f := QN.its)).trans ?_
                rw [List.flatMap_append, kidB_its]
                have h := HP4.out.flatMap_right (f := QN.its)
                rw [List.flatMap_cons] at h
                exact h
              have hnew : NbSt c Z w0 base pb pd pf pn mx Bb B6 B6 b L0 wr Q2 O :=
                ⟨HQ2.out, HH2.out, fun y hy => by
                    rcases List.mem_append.1 (HP2.out.mem_iff.1 hy) with h | h
                    · exact hkg.out y h
                    · exact hg4.out y h,
                  HC2.out, HN2.out, HB2.out, HS.out.nr.perm_rest hpf2, fun o ho y hy => by
                    rcases List.mem_append.1 (HP2.out.mem_iff.1 hy) with h | h
                    · exact Nat.le_trans (HS.out.le o ho _ hxq.out) (hkl.out y h)
                    · exact HS.out.le o ho y (HP4.out.mem_iff.1 (List.mem_cons_of_mem _ h)),
                  HS.out.on, HX2.out⟩
              have hws : (Q2.map QN.wt).sum = (((lst kk X).map (kidB b)).map QN.wt).sum + (Q'.map QN.wt).sum := by
                have h := (HP2.out.map QN.wt).sum_nat
                rw [h, List.map_append, List.sum_append]
              have HNEW := Lib.hid hnew
              have HWS := Lib.hid hws
              clear hnew hws hpf2
              go_wp2_with fail
              go_roundw
              case measure =>
                refine Nat.lt_of_le_of_lt (leastN_le ⟨_, _, HNEW.out, rfl⟩) ?_
                have h1 := HWT.out
                try dsimp only at h1
                rw [kidB_wt b] at h1
                rw [← HW.out, h1, HWS.out]
                omega
              case rel => exact ⟨_, _, HNEW.out⟩
            have hNr := HNN.out.ex HX2.out
            have hlr : ListAt wr ql (elT false) (fE (mp An.v X)) := (Chg.ex (S := fun _ => False) HX2.out).list HLL.out (fun h => h)
            have hcl0 := hlr.cell (i := kk) (by omega)
            obtain ⟨pk, hpk⟩ := (HEL.out (X kk) (mem_lst.2 ⟨kk, hlt, rfl⟩)).ptr
            have hcl : wr.cell? ⟨ql, kk, none⟩ = some (.pointer (some ⟨pk, 0, none⟩)) := by rw [hcl0]; show some ((X kk).2.v) = _; rw [hpk]
            have hte : wr.cell? ⟨tr, 7, none⟩ = some (.int .i64 0) := by
              have h := HTR0.out.ex HX2.out
              unfold TreeAt at h
              rw [cellOf h]; rfl
            have r0 : wr.cell? ⟨q', 3 + kk * 4, none⟩ = some (.int .i64 (X kk).1.x0) := cell_rcell hNr (i := kk) (j := 0) (by omega) (by omega)
            have r1 : wr.cell? ⟨q', 3 + kk * 4 + 1, none⟩ = some (.int .i64 (X kk).1.y0) := cell_rcell hNr (i := kk) (j := 1) (by omega) (by omega)
            have r2 : wr.cell? ⟨q', 3 + kk * 4 + 2, none⟩ = some (.int .i64 (X kk).1.x1) := cell_rcell hNr (i := kk) (j := 2) (by omega) (by omega)
            have r3 : wr.cell? ⟨q', 3 + kk * 4 + 3, none⟩ = some (.int .i64 (X kk).1.y1) := cell_rcell hNr (i := kk) (j := 3) (by omega) (by omega)
            have hsk := hsm.out kk hlt
            have hq2l : Q2.length = kk + Q'.length := by rw [HP2.out.length_eq, List.length_append, List.length_map, lst_len]
            have hkd : ∀ y ∈ Q2, y.d < 2 ^ 53 := fun y hy => by
              rcases List.mem_append.1 (HP2.out.mem_iff.1 hy) with h | h
              · obtain ⟨e, he, rfl⟩ := List.mem_map.1 h
                obtain ⟨i, hi, rfl⟩ := mem_lst.1 he
                exact (hkg.out _ (List.mem_map_of_mem (mem_lst.2 ⟨i, by omega, rfl⟩))).lt hb
              · exact (hg4.out y h).lt hb
            have hkx : (kidB b (X kk)).d < 2 ^ 53 := (hkg.out _ (List.mem_map_of_mem (mem_lst.2 ⟨kk, hlt, rfl⟩))).lt hb
            have hDi := fun (y : Mix.Xt) (d : Int) (it : Bool) => nbDist_c (wr.ext y) Bb b (X kk).1 hb hsk d it (((Mix.Ex.refl wr).ext y).obj HB2.out)
            have hPu := fun y => push_c w0 (wr.ext y) B6 B6 Q2 (kidB b (X kk)) (HQ2.out.ex ((Mix.Ex.refl wr).ext y)) (by have := hLb.out; omega) hkd hkx HH2.out (HX2.out.ext y) h06
            have hsn : (kidB b (X kk) :: Q2).Perm ((lst (kk + 1) X).map (kidB b) ++ Q') := by
              refine (HP2.out.cons _).trans ?_
              rw [lst_succ, List.map_append, List.append_assoc]
              exact (List.perm_middle (l₁ := (lst kk X).map (kidB b))).symm
            dsimp only [kidL, kidB] at hPu hsn
            rw [hpk] at hPu hsn
            dsimp only [ptrOf] at hPu hsn
            clear hkd hkx hcl0 hlr hNr hq2l hsk hpk
            generalize (X kk).1 = r at r0 r1 r2 r3 hDi hPu hsn
            have HSN := Lib.hid hsn
            clear hsn
            have hkni : (kk : Int) < nn := by omega
            have hqw : q' < wr.heap.size := World.block_lt_of_cell? wr _ r0
            have hlw : ql < wr.heap.size := World.block_lt_of_cell? wr _ hcl
            have htw : tr < wr.heap.size := World.block_lt_of_cell? wr _ hte
            go_upto_region 18 with (fail)
            (refine Mix.wp_region_exw 26 [0] (by kernel_rfl) (by kernel_rfl) ?_; simp only [List.take_succ_cons, List.take_zero, List.drop_succ_cons, List.drop_zero]; (repeat (go_big_quiet_step (first | (go_at_call 58; exact Mix.calls_qx (hDi _ _ _) (fun y => ⟨_, World.ext_ext _ _ _⟩))))); refine wpQuiet_nil ?_)
            (refine Mix.wpTl_ex (fun y K hK => ?_); go_simp)
            refine (hPu _).mono ?_
            rintro e w9 ⟨rfl, L9, hp9, hh9, hq9, hx9, hk9⟩
            refine ⟨_, rfl, _, Mix.Ex.refl _, hK _ _ trivial ?_⟩
            (clear hK K; simp only [Act.put, List.setIfInBounds_toArray, List.set_cons_zero, List.set_cons_succ, List.take_succ_cons, List.take_zero, List.drop_succ_cons, List.drop_zero])
            (repeat (go_big_quiet_step (fail)))
            (refine wpQuiet_nil ?_; intro nq)
            have e9 := (Mix.Ex.refl w9).ext nq
            have f9 := fun y => (Mix.Ex.refl wr).ext y
            have HQ9 := Lib.hid (hq9.ex e9)
            have HH9 := Lib.hid hh9
            have HP9 := Lib.hid (hp9.trans HSN.out)
            have HC9 := Lib.hid (((HC2.out.ex (f9 _)).kpQ hk9).ex e9)
            have HN9 := Lib.hid (e9.obj (hk9.2 _ _ _ _ ((f9 _).obj HN2.out) (by decide) (by decide)))
            have HB9 := Lib.hid (e9.obj (hk9.2 _ _ _ _ ((f9 _).obj HB2.out) (by decide) (by decide)))
            have HX9 := Lib.hid (hx9.trans e9)
            clear hp9 hh9 hq9 hx9 hk9 e9 f9 hPu hDi r0 r1 r2 r3 hcl hqw hlw hkni hte htw
            go_wp2_with fail
            go_roundw
            case measure => simp [intOf]; omega
            case rel => exact ⟨kk + 1, by omega, by go_num, ⟨L9, HQ9.out, HH9.out, HP9.out⟩, HC9.out, HN9.out, HB9.out, HX9.out⟩
end Go.Proofs.Ytboeldlilkeihaa
