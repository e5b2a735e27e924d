/- The law on the items at the ends: its walk. -/
import Derived.Test.YtboeldlilkeihaaEndsI
import Derived.Test.YtboeldlilkeihaaEmp
import Derived.Test.YtboeldlilkeihaaBndL
set_option linter.unusedSimpArgs false
set_option linter.unusedVariables false
namespace Go.Proofs.Ytboeldlilkeihaa
open Go.RowKit Go.Bx
/-- The item at a place of the four. -/
def e4 (xa xb xc xd : R × Int) : Nat → R × Int
  | 0 => xa
  | 1 => xb
  | 2 => xc
  | _ => xd
theorem run_index_ends (xa xb xc xd : R × Int) (jj : Nat) (hj : jj < 4) (w : World) : (Instr.index 63 (.agg #[.int .i64 xa.1.x0, .int .i64 xa.1.y0, .int .i64 xa.1.x1, .int .i64 xa.1.y1, .int .i64 xa.2, .int .i64 xb.1.x0, .int .i64 xb.1.y0, .int .i64 xb.1.x1, .int .i64 xb.1.y1, .int .i64 xb.2, .int .i64 xc.1.x0, .int .i64 xc.1.y0, .int .i64 xc.1.x1, .int .i64 xc.1.y1, .int .i64 xc.2, .int .i64 xd.1.x0, .int .i64 xd.1.y0, .int .i64 xd.1.x1, .int .i64 xd.1.y1, .int .i64 xd.2]) (.int .i64 (jj : Int))).run Try.prog w = .ok (.agg #[.int .i64 (e4 xa xb xc xd jj).1.x0, .int .i64 (e4 xa xb xc xd jj).1.y0, .int .i64 (e4 xa xb xc xd jj).1.x1, .int .i64 (e4 xa xb xc xd jj).1.y1, .int .i64 (e4 xa xb xc xd jj).2]) w := by
  rcases (by omega : jj = 0 ∨ jj = 1 ∨ jj = 2 ∨ jj = 3) with rfl | rfl | rfl | rfl <;> kernel_rfl
@[go_sem high] theorem run_eql_ends0 (w : World) : (binOp .eql 63 (.agg #[.int .i64 0, .int .i64 0, .int .i64 0, .int .i64 0, .int .i64 0, .int .i64 0, .int .i64 0, .int .i64 0, .int .i64 0, .int .i64 0, .int .i64 0, .int .i64 0, .int .i64 0, .int .i64 0, .int .i64 0, .int .i64 0, .int .i64 0, .int .i64 0, .int .i64 0, .int .i64 0]) (.agg #[.int .i64 0, .int .i64 0, .int .i64 0, .int .i64 0, .int .i64 0, .int .i64 0, .int .i64 0, .int .i64 0, .int .i64 0, .int .i64 0, .int .i64 0, .int .i64 0, .int .i64 0, .int .i64 0, .int .i64 0, .int .i64 0, .int .i64 0, .int .i64 0, .int .i64 0, .int .i64 0])).run Try.prog w = .ok (.bool true) w := by kernel_rfl
@[go_sem] theorem guard_ends : Try.prog.eqGuardType Try.prog.depth 63 = false := by kernel_rfl
set_option maxRecDepth 100000 in
set_option maxHeartbeats 3200000 in
theorem exactEnds_walk (w : World) (v : Value) (zs : List Int) (h : Ints16At w v zs) :
    Calls Try.prog 16 #[v] w fun e w' => e = .returned (.bool true) ∧ Mix.Ex w w' := by
  have h' := h
  obtain ⟨⟨o, cap0, rfl, hcells⟩, hle, hcap, hwf⟩ := h
  clear hcells hwf hcap
  go_enter Try.func16, Try.ntmps16
  go_wp2_with fail
  · go_ret
    exact ⟨rfl, Mix.Ex.refl _⟩
  refine (steps_c w _ zs h').mono ?_
  rintro e w1 ⟨g, cap, rfl, hr, hx⟩
  have hl := stepsOf_len zs
  have hok := stepsOf_ok h'
  generalize stepsOf zs = S at hr hl hok ⊢
  obtain ⟨n, hn⟩ : ∃ n, S.length = n := ⟨_, rfl⟩
  rw [hn] at hr ⊢
  go_wp2_with fail
  refine (fair_c w1 0 _ (.slice none 0 0) [] (.nil itemV_len) g n cap S hr hn (by simp; omega)).mono ?_
  rintro e w2 ⟨b, rfl, hb, hx2⟩
  cases b
  · go_wp2_with fail
    go_ret
    exact ⟨rfl, hx.trans hx2⟩
  have hf := hb rfl
  have hp := grown_fair hok hf
  have hO := grown_ok hok
  have hbd := bounds_eq hO hp
  have hB := (TreOk.bd hO).2
  have hml := play_len S []
  simp only [List.length_nil] at hml
  have hEn := fun W (hx : Mix.Ex w1 W) => implEnds_c W S hok (by omega) _ g cap n hn (hr.ex hx)
  have hL := fun W (hx : Mix.Ex w1 W) => implBounds_c W S hok (by omega) _ g cap n hn (hr.ex hx)
  rw [hbd] at hL hB
  have hPl := play_c w2 0 _ (.slice none 0 0) [] (.nil itemV_len) g n cap S (hr.ex hx2) hn (by simp; omega)
  have HX := Lib.hid hx
  clear hb hf hx hbd hO
  generalize itT (Bx.runT tre0 S) = G at hEn hp hB
  generalize play [] S = M at hPl hml hp hL hB
  have HP := Lib.hid hp
  have HB := Lib.hid hB
  have HL := Lib.hid hL
  have HEN := Lib.hid hEn
  clear hp hB hL hEn hr
  go_wp2_with fail
  refine hPl.mono ?_
  rintro e w3 ⟨v', rfl, hrow, hx3⟩
  obtain ⟨om, capm, rfl, hom⟩ := hrow.slice
  obtain ⟨m, hmm⟩ : ∃ m, M.length = m := ⟨_, rfl⟩
  rw [hmm] at hrow hom hml ⊢
  have HM := Lib.hid hmm
  have hx23 := hx2.trans hx3
  have HROW := Lib.hid hrow
  clear hmm hPl hx2 hx3 hrow
  go_wp2_with fail
  refine (HEN.out w3 hx23).mono ?_
  rintro e w4 ⟨xa, xb, xc, xd, hE, rfl, hx4⟩
  obtain ⟨C, hC⟩ : ∃ C : Array Value, C = #[.int .i64 xa.1.x0, .int .i64 xa.1.y0, .int .i64 xa.1.x1, .int .i64 xa.1.y1, .int .i64 xa.2, .int .i64 xb.1.x0, .int .i64 xb.1.y0, .int .i64 xb.1.x1, .int .i64 xb.1.y1, .int .i64 xb.2, .int .i64 xc.1.x0, .int .i64 xc.1.y0, .int .i64 xc.1.x1, .int .i64 xc.1.y1, .int .i64 xc.2, .int .i64 xd.1.x0, .int .i64 xd.1.y0, .int .i64 xd.1.x1, .int .i64 xd.1.y1, .int .i64 xd.2] := ⟨_, rfl⟩
  rw [← hC]
  have HC := Lib.hid hC
  have s1 : (Try.prog.info? 63).map (·.size) = some C.size := by rw [hC]; exact size_ends
  have s2 : C.all (·.oneCell') = true := by rw [hC]; simp [Value.oneCell']
  have s4 : C.size = 20 := by rw [hC]; rfl
  have HE := Lib.hid hE
  have HX4 := Lib.hid (hx23.trans hx4)
  have HROW4 := Lib.hid (HROW.out.ex hx4)
  clear hC hE hx4 hx23 HROW
  have hx5 := ex_setRow ((Mix.Ex.refl w4).alloc (.cells #[.int .i64 0, .int .i64 0, .int .i64 0, .int .i64 0, .int .i64 0, .int .i64 0, .int .i64 0, .int .i64 0, .int .i64 0, .int .i64 0, .int .i64 0, .int .i64 0, .int .i64 0, .int .i64 0, .int .i64 0, .int .i64 0, .int .i64 0, .int .i64 0, .int .i64 0, .int .i64 0] 63)) (Nat.le_refl _) C
  have n5 := setRow_heap (w4.alloc (.cells #[.int .i64 0, .int .i64 0, .int .i64 0, .int .i64 0, .int .i64 0, .int .i64 0, .int .i64 0, .int .i64 0, .int .i64 0, .int .i64 0, .int .i64 0, .int .i64 0, .int .i64 0, .int .i64 0, .int .i64 0, .int .i64 0, .int .i64 0, .int .i64 0, .int .i64 0, .int .i64 0] 63)) w4.heap.size #[.int .i64 0, .int .i64 0, .int .i64 0, .int .i64 0, .int .i64 0, .int .i64 0, .int .i64 0, .int .i64 0, .int .i64 0, .int .i64 0, .int .i64 0, .int .i64 0, .int .i64 0, .int .i64 0, .int .i64 0, .int .i64 0, .int .i64 0, .int .i64 0, .int .i64 0, .int .i64 0] C 63 (0, 0) (heap_alloc_new w4 (.cells #[.int .i64 0, .int .i64 0, .int .i64 0, .int .i64 0, .int .i64 0, .int .i64 0, .int .i64 0, .int .i64 0, .int .i64 0, .int .i64 0, .int .i64 0, .int .i64 0, .int .i64 0, .int .i64 0, .int .i64 0, .int .i64 0, .int .i64 0, .int .i64 0, .int .i64 0, .int .i64 0] 63))
  go_upto_region 8 with (refine wpList_store_row (o := ⟨none, .store 63 _ _, _, _, _, _⟩) rfl 63 (.tmp 5) (.tmp 23) rfl w4.heap.size C rfl rfl _ _ (heap_alloc_new _ _) s1 (by rw [s4]; rfl) s2 ?_)
  change Code.wp _ _ _ _ ((w4.alloc (.cells #[.int .i64 0, .int .i64 0, .int .i64 0, .int .i64 0, .int .i64 0, .int .i64 0, .int .i64 0, .int .i64 0, .int .i64 0, .int .i64 0, .int .i64 0, .int .i64 0, .int .i64 0, .int .i64 0, .int .i64 0, .int .i64 0, .int .i64 0, .int .i64 0, .int .i64 0, .int .i64 0] 63)).setRow w4.heap.size C)
  generalize ((w4.alloc (.cells #[.int .i64 0, .int .i64 0, .int .i64 0, .int .i64 0, .int .i64 0, .int .i64 0, .int .i64 0, .int .i64 0, .int .i64 0, .int .i64 0, .int .i64 0, .int .i64 0, .int .i64 0, .int .i64 0, .int .i64 0, .int .i64 0, .int .i64 0, .int .i64 0, .int .i64 0, .int .i64 0] 63)).setRow w4.heap.size C) = w5 at hx5 n5 ⊢
  obtain ⟨B5, hB5⟩ : ∃ B5, w4.heap.size = B5 := ⟨_, rfl⟩
  rw [hB5] at n5 ⊢
  clear hB5 s2
  have HX5 := Lib.hid (HX4.out.trans hx5)
  have HROW5 := Lib.hid (HROW4.out.ex hx5)
  have N5 := Lib.hid n5
  clear hx5 HX4 HROW4
  by_cases hm0 : m = 0
  · have hM0 : M = [] := List.length_eq_zero_iff.1 (by have := HM.out; omega)
    have hG0 : G = [] := by have := HP.out; rw [hM0] at this; exact List.Perm.eq_nil this
    obtain ⟨rfl, rfl, rfl, rfl⟩ := HE.out.no hG0
    have hEq : ∀ w, (binOp .eql 63 (.agg C) (.agg #[.int .i64 0, .int .i64 0, .int .i64 0, .int .i64 0, .int .i64 0, .int .i64 0, .int .i64 0, .int .i64 0, .int .i64 0, .int .i64 0, .int .i64 0, .int .i64 0, .int .i64 0, .int .i64 0, .int .i64 0, .int .i64 0, .int .i64 0, .int .i64 0, .int .i64 0, .int .i64 0])).run Try.prog w = .ok (.bool true) w := by rw [HC.out]; exact run_eql_ends0
    subst hm0
    clear hM0 hG0 HE HC
    have hxa := (Mix.Ex.refl w5).alloc (.cells (stepV st0).toArray 37)
    have hone : (w5.alloc (.cells (stepV st0).toArray 37)).Row 0 37 11 stepV (.slice (some ⟨w5.heap.size, 0, none⟩) 1 1) [st0] := World.Row.one stepV_len (Nat.zero_le _) (heap_alloc_new _ _)
    have hLo := implLen_c (w5.alloc (.cells (stepV st0).toArray 37)) [st0] st0_ok (by simp) 0 w5.heap.size 1 1 rfl hone
    rw [st0_len] at hLo
    clear hone
    go_wp2_with (refine wpList_load_row (o := ⟨some 27, _, _, _, _, _⟩) rfl 63 (.tmp 5) rfl B5 rfl _ C _ _ n5 Try.underlying63 rfl s1 ?_)
    refine hLo.mono ?_
    rintro e w6 ⟨rfl, hx6⟩
    go_wp2_with fail
    go_ret
    exact ⟨rfl, (HX.out.trans HX5.out).trans (hxa.trans hx6)⟩
  have hne : G ≠ [] := fun e => by
    have h := HP.out
    rw [e] at h
    have := h.length_eq
    have := HM.out
    simp at *
    omega
  obtain ⟨eL, eR, eB, eT⟩ := HE.out.yes hne
  have hbd := HB.out hne
  have hL := fun W (hx : Mix.Ex w1 W) => HL.out W hx
  obtain ⟨r, hr⟩ : ∃ r, around M = r := ⟨_, rfl⟩
  rw [hr] at hbd hL
  have QX : Hid (∀ jj : Nat, jj < 4 → e4 xa xb xc xd jj ∈ M ∧ (jj = 0 → (e4 xa xb xc xd jj).1.x0 = r.x0) ∧ (jj = 1 → (e4 xa xb xc xd jj).1.x1 = r.x1) ∧ (jj = 2 → (e4 xa xb xc xd jj).1.y0 = r.y0) ∧ (jj = 3 → (e4 xa xb xc xd jj).1.y1 = r.y1)) := Lib.hid fun jj hj => by
    rcases (by omega : jj = 0 ∨ jj = 1 ∨ jj = 2 ∨ jj = 3) with rfl | rfl | rfl | rfl
    · exact ⟨HP.out.mem_iff.1 eL.1, fun _ => bdL hbd eL, fun h => by omega, fun h => by omega, fun h => by omega⟩
    · exact ⟨HP.out.mem_iff.1 eR.1, fun h => by omega, fun _ => bdR hbd eR, fun h => by omega, fun h => by omega⟩
    · exact ⟨HP.out.mem_iff.1 eB.1, fun h => by omega, fun h => by omega, fun _ => bdB hbd eB, fun h => by omega⟩
    · exact ⟨HP.out.mem_iff.1 eT.1, fun h => by omega, fun h => by omega, fun h => by omega, fun _ => bdT hbd eT⟩
  have hIX : ∀ jj : Nat, jj < 4 → ∀ w, (Instr.index 63 (.agg C) (.int .i64 (jj : Int))).run Try.prog w = .ok (.agg #[.int .i64 (e4 xa xb xc xd jj).1.x0, .int .i64 (e4 xa xb xc xd jj).1.y0, .int .i64 (e4 xa xb xc xd jj).1.x1, .int .i64 (e4 xa xb xc xd jj).1.y1, .int .i64 (e4 xa xb xc xd jj).2]) w := fun jj hj w => by rw [HC.out]; exact run_index_ends xa xb xc xd jj hj w
  have HIX := Lib.hid hIX
  generalize e4 xa xb xc xd = X4 at QX HIX
  have hB := hL w5 HX5.out
  have e0 : ((m : Int) == 0) = false := by simp; omega
  clear hr hbd eL eR eB eT hne hL HL HE HC hIX
  go_wp2_with fail
  refine hB.mono ?_
  rintro e w6 ⟨r', rfl, rfl, hx6⟩
  have hxa := (Mix.Ex.refl w6).alloc (.cells (boxV r').toArray 30)
  have n6 := heap_alloc_new w6 (.cells (boxV r').toArray 30)
  have n5 := (hx6.trans hxa).obj n5
  have hx7 := hx6.trans hxa
  go_upto_region 11 with (fail)
  change Code.wp _ _ _ _ (w6.alloc (.cells (boxV r').toArray 30))
  obtain ⟨B6, hB6⟩ : ∃ B6, w6.heap.size = B6 := ⟨_, rfl⟩
  rw [hB6] at n6 ⊢
  generalize (w6.alloc (.cells (boxV r').toArray 30)) = w7 at n6 n5 hx7 ⊢
  have N6 := Lib.hid n6
  have HX7 := Lib.hid (HX5.out.trans hx7)
  have HROW := Lib.hid (HROW5.out.ex hx7)
  clear n6 hxa hx6 hx7 N5 hB e0 HROW5
  go_upto_region 12 with (refine wpList_load_row (o := ⟨some 38, _, _, _, _, _⟩) rfl 63 (.tmp 5) rfl B5 rfl _ C _ _ n5 Try.underlying63 rfl s1 ?_)
  clear n5 s1 s4
  obtain ⟨gm, rfl⟩ := hom (by omega)
  clear hom
  go_loopw [39] (fun i wr => ∃ jj : Nat, jj ≤ 4 ∧ i = .int .i64 jj ∧ Mix.Ex w7 wr) (fun i _ => 4 - (intOf i).toNat)
  case atStart => exact ⟨0, by omega, rfl, Mix.Ex.refl _⟩
  case round =>
    obtain ⟨jj, hj, rfl, hx⟩ := hrel
    by_cases hj4 : jj < 4
    case neg =>
      have hjj : jj = 4 := by omega
      subst hjj
      have HX8 := Lib.hid hx
      clear hx
      go_wp2_with fail
      go_ret
      exact ⟨rfl, (HX.out.trans HX7.out).trans HX8.out⟩
    have hix := HIX.out jj hj4
    obtain ⟨hxm, qx0, qx1, qx2, qx3⟩ := QX.out jj hj4
    obtain ⟨x, hxx⟩ : ∃ x, X4 jj = x := ⟨_, rfl⟩
    rw [hxx] at hix hxm qx0 qx1 qx2 qx3
    have HXM := Lib.hid hxm
    clear hxm hxx
    have hj4i : (jj : Int) < 4 := by omega
    have hxa := hx.alloc (.cells (itemV x).toArray 35)
    have n8 := heap_alloc_new wr (.cells (itemV x).toArray 35)
    have Q0 := Lib.hid qx0
    have Q1 := Lib.hid qx1
    have Q2 := Lib.hid qx2
    have Q3 := Lib.hid qx3
    clear qx0 qx1 qx2 qx3
    go_upto_region 14 with (fail)
    change Code.wp _ _ _ _ (wr.alloc (.cells (itemV x).toArray 35))
    obtain ⟨B8, hB8⟩ : ∃ B8, wr.heap.size = B8 := ⟨_, rfl⟩
    rw [hB8] at n8 ⊢
    have n6 := ((Mix.Ex.refl wr).alloc (.cells (itemV x).toArray 35)).obj (hx.obj N6.out)
    generalize (wr.alloc (.cells (itemV x).toArray 35)) = w8 at hxa n8 n6 ⊢
    have N8 := Lib.hid n8
    have N68 := Lib.hid n6
    have HX8 := Lib.hid hxa
    clear hx hxa n8 n6 hB8 hix wr
    go_upto_region 16 with (fail)
    go_loopw [9, 45] (fun bv i wr => ∃ k : Nat, k ≤ m ∧ i = .int .i64 k ∧ bv = .bool (decide (x ∈ M.take k)) ∧ Mix.Ex w8 wr) (fun _ i _ => m - (intOf i).toNat)
    case atStart => exact ⟨0, by omega, rfl, by simp, Mix.Ex.refl _⟩
    case round =>
      obtain ⟨k, hk, rfl, rfl, hx⟩ := hrel
      by_cases hkm : k < m
      case neg =>
        have hd : decide (x ∈ M.take k) = true := by
          rw [List.take_of_length_le (by have := HM.out; omega)]
          exact decide_eq_true HXM.out
        rw [hd]
        have n8 := hx.obj N8.out
        have n6 := hx.obj N68.out
        have HXF := Lib.hid (HX8.out.trans hx)
        clear hd hx
        have a0 := cellOf n8 0
        have a1 := cellOf n8 1
        have a2 := cellOf n8 2
        have a3 := cellOf n8 3
        have b0 := cellOf n6 0
        have b1 := cellOf n6 1
        have b2 := cellOf n6 2
        have b3 := cellOf n6 3
        simp only [itemV, boxV, List.getElem?_toArray, List.getElem?_cons_zero, List.getElem?_cons_succ] at a0 a1 a2 a3 b0 b1 b2 b3
        clear n8 n6
        rcases (by omega : jj = 0 ∨ jj = 1 ∨ jj = 2 ∨ jj = 3) with rfl | rfl | rfl | rfl
        · have e1 : (x.1.x0 != r'.x0) = false := by rw [Q0.out rfl]; simp
          obtain ⟨d, hd⟩ : ∃ d, (x.1.x1 != r'.x1) = d := ⟨_, rfl⟩
          cases d
          · go_upto_region 20 with (fail)
            (refine Mix.wp_region_dr (by kernel_rfl) (by kernel_rfl) ?_; (repeat (go_big_quiet_step (fail))); refine wpQuiet_nil ?_; intro nq)
            clear a0 a1 a2 a3 b0 b1 b2 b3 e1 hd
            go_wp2_with fail
            go_roundw
            case measure => simp [intOf]
            case rel => exact ⟨1, by omega, by first | rfl | go_num | simp, HXF.out.drewN _⟩
          · go_upto_region 20 with (fail)
            (refine Mix.wp_region_dr (by kernel_rfl) (by kernel_rfl) ?_; (repeat (go_big_quiet_step (fail))); refine wpQuiet_nil ?_; intro nq)
            clear a0 a1 a2 a3 b0 b1 b2 b3 e1 hd
            go_wp2_with fail
            go_roundw
            case measure => simp [intOf]
            case rel => exact ⟨1, by omega, by first | rfl | go_num | simp, HXF.out.drewN _⟩
        · have e1 : (x.1.x1 != r'.x1) = false := by rw [Q1.out rfl]; simp
          obtain ⟨d, hd⟩ : ∃ d, (x.1.x0 != r'.x0) = d := ⟨_, rfl⟩
          cases d
          · go_upto_region 20 with (fail)
            (refine Mix.wp_region_dr (by kernel_rfl) (by kernel_rfl) ?_; (repeat (go_big_quiet_step (fail))); refine wpQuiet_nil ?_; intro nq)
            clear a0 a1 a2 a3 b0 b1 b2 b3 e1 hd
            go_wp2_with fail
            go_roundw
            case measure => simp [intOf]
            case rel => exact ⟨2, by omega, by first | rfl | go_num | simp, HXF.out.drewN _⟩
          · go_upto_region 20 with (fail)
            (refine Mix.wp_region_dr (by kernel_rfl) (by kernel_rfl) ?_; (repeat (go_big_quiet_step (fail))); refine wpQuiet_nil ?_; intro nq)
            clear a0 a1 a2 a3 b0 b1 b2 b3 e1 hd
            go_wp2_with fail
            go_roundw
            case measure => simp [intOf]
            case rel => exact ⟨2, by omega, by first | rfl | go_num | simp, HXF.out.drewN _⟩
        · have e1 : (x.1.y0 != r'.y0) = false := by rw [Q2.out rfl]; simp
          obtain ⟨d, hd⟩ : ∃ d, (x.1.y1 != r'.y1) = d := ⟨_, rfl⟩
          cases d
          · go_upto_region 20 with (fail)
            (refine Mix.wp_region_dr (by kernel_rfl) (by kernel_rfl) ?_; (repeat (go_big_quiet_step (fail))); refine wpQuiet_nil ?_; intro nq)
            clear a0 a1 a2 a3 b0 b1 b2 b3 e1 hd
            go_wp2_with fail
            go_roundw
            case measure => simp [intOf]
            case rel => exact ⟨3, by omega, by first | rfl | go_num | simp, HXF.out.drewN _⟩
          · go_upto_region 20 with (fail)
            (refine Mix.wp_region_dr (by kernel_rfl) (by kernel_rfl) ?_; (repeat (go_big_quiet_step (fail))); refine wpQuiet_nil ?_; intro nq)
            clear a0 a1 a2 a3 b0 b1 b2 b3 e1 hd
            go_wp2_with fail
            go_roundw
            case measure => simp [intOf]
            case rel => exact ⟨3, by omega, by first | rfl | go_num | simp, HXF.out.drewN _⟩
        · have e1 : (x.1.y1 != r'.y1) = false := by rw [Q3.out rfl]; simp
          obtain ⟨d, hd⟩ : ∃ d, (x.1.y0 != r'.y0) = d := ⟨_, rfl⟩
          cases d
          · go_upto_region 20 with (fail)
            (refine Mix.wp_region_dr (by kernel_rfl) (by kernel_rfl) ?_; (repeat (go_big_quiet_step (fail))); refine wpQuiet_nil ?_; intro nq)
            clear a0 a1 a2 a3 b0 b1 b2 b3 e1 hd
            go_wp2_with fail
            go_roundw
            case measure => simp [intOf]
            case rel => exact ⟨4, by omega, by first | rfl | go_num | simp, HXF.out.drewN _⟩
          · go_upto_region 20 with (fail)
            (refine Mix.wp_region_dr (by kernel_rfl) (by kernel_rfl) ?_; (repeat (go_big_quiet_step (fail))); refine wpQuiet_nil ?_; intro nq)
            clear a0 a1 a2 a3 b0 b1 b2 b3 e1 hd
            go_wp2_with fail
            go_roundw
            case measure => simp [intOf]
            case rel => exact ⟨4, by omega, by first | rfl | go_num | simp, HXF.out.drewN _⟩
      obtain ⟨y, hy⟩ : ∃ y, M[k]? = some y := ⟨M[k]'(by have := HM.out; omega), List.getElem?_eq_getElem _⟩
      obtain ⟨l0, l1, l2, l3, l4⟩ := row_cells5 ((HROW.out.ex HX8.out).ex hx) hy
      have hsn : M.take (k + 1) = M.take k ++ [y] := takeN_snoc hy
      have HSN := Lib.hid hsn
      have hxy := hx.alloc (.cells (itemV y).toArray 35)
      have n9 := heap_alloc_new wr (.cells (itemV y).toArray 35)
      have n8 := hxy.obj N8.out
      go_upto_region 18 with (fail)
      change Code.wp _ _ _ _ (wr.alloc (.cells (itemV y).toArray 35))
      obtain ⟨B9, hB9⟩ : ∃ B9, wr.heap.size = B9 := ⟨_, rfl⟩
      rw [hB9] at n9 ⊢
      generalize (wr.alloc (.cells (itemV y).toArray 35)) = w9 at hxy n8 n9 ⊢
      have HXY := Lib.hid hxy
      clear hsn hy hxy hx l0 l1 l2 l3 l4
      have a0 := cellOf n8 0
      have a1 := cellOf n8 1
      have a2 := cellOf n8 2
      have a3 := cellOf n8 3
      have a4 := cellOf n8 4
      have b0 := cellOf n9 0
      have b1 := cellOf n9 1
      have b2 := cellOf n9 2
      have b3 := cellOf n9 3
      have b4 := cellOf n9 4
      simp only [itemV, List.getElem?_toArray, List.getElem?_cons_zero, List.getElem?_cons_succ] at a0 a1 a2 a3 a4 b0 b1 b2 b3 b4
      clear n8 n9
      by_cases hin : x ∈ M.take k
      · rw [decide_eq_true hin]
        have hfin : decide (x ∈ M.take (k + 1)) = true := decide_eq_true (by rw [HSN.out]; exact List.mem_append_left _ hin)
        have HFIN := Lib.hid hfin
        clear hfin hin
        go_wp2_with fail
        go_roundw
        case measure => simp [intOf]; omega
        case rel => exact ⟨k + 1, by omega, by go_num, by rw [HFIN.out], HXY.out⟩
      · rw [decide_eq_false hin]
        obtain ⟨d, hd⟩ : ∃ d, sameI (⟨x.1.x0, x.1.y0, x.1.x1, x.1.y1⟩, x.2) (⟨y.1.x0, y.1.y0, y.1.x1, y.1.y1⟩, y.2) = d := ⟨_, rfl⟩
        have hfin : decide (x ∈ M.take (k + 1)) = d := by
          rw [HSN.out, ← hd]
          have e : sameI (⟨x.1.x0, x.1.y0, x.1.x1, x.1.y1⟩, x.2) (⟨y.1.x0, y.1.y0, y.1.x1, y.1.y1⟩, y.2) = decide (x = y) := rfl
          rw [e, decide_eq_decide]
          constructor
          · intro h
            rcases List.mem_append.1 h with h | h
            · exact absurd h hin
            · exact List.mem_singleton.1 h
          · rintro rfl
            exact List.mem_append_right _ (by simp)
        have HFIN := Lib.hid hfin
        clear hfin hin
        go_wp2_with fail
        go_roundw
        case measure => simp [intOf]; omega
        case rel => exact ⟨k + 1, by omega, by go_num, by rw [HFIN.out], HXY.out⟩
end Go.Proofs.Ytboeldlilkeihaa
