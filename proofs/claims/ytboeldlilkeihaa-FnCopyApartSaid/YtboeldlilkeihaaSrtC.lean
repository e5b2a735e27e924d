/- The contracts of Sorted and Same. -/
import Derived.Test.YtboeldlilkeihaaSame
set_option linter.unusedSimpArgs false
set_option linter.unusedVariables false
namespace Go.Proofs.Ytboeldlilkeihaa
open Go.RowKit Go.Bx
set_option maxRecDepth 100000 in
set_option maxHeartbeats 3200000 in
theorem sorted_c (w : World) (b0 : Nat) (v : Value) (L : List (R × Int)) (hr : w.Row b0 35 5 itemV v L) (hm : L.length ≤ 900000) :
    Calls Try.prog 35 #[v] w fun e w' => ∃ M g cap, e = .returned (.slice (some ⟨g, 0, none⟩) L.length cap) ∧ w'.Row w.heap.size 35 5 itemV (.slice (some ⟨g, 0, none⟩) L.length cap) M ∧ M.Perm L ∧ SrtI M ∧ Mix.Ex w w' := by
  obtain ⟨i0, hi0, hz0, hz1, hz2⟩ := info_parts info_item
  obtain ⟨o, cap0, rfl, ho⟩ := hr.slice
  obtain ⟨n, hn⟩ : ∃ n, L.length = n := ⟨_, rfl⟩
  rw [hn] at hr hm ho ⊢
  obtain ⟨B, hB⟩ : ∃ B, w.heap.size = B := ⟨_, rfl⟩
  have HN := Lib.hid hn
  have HR := Lib.hid hr
  clear hn hr
  go_enter Try.func35, Try.ntmps35
  go_wp2_with fail
  go_loopw [3, 10] (fun v i wr => ∃ kk g cap : Nat, kk ≤ n ∧ i = .int .i64 kk ∧ v = .slice (some ⟨g, 0, none⟩) kk cap ∧ (∃ M, wr.Row B 35 5 itemV (.slice (some ⟨g, 0, none⟩) kk cap) M ∧ M.Perm (L.take kk) ∧ SrtI M) ∧ Mix.Ex w wr) (fun _ i _ => n - (intOf i).toNat)
  case atStart =>
    exact ⟨0, B, 0, by omega, rfl, rfl, ⟨[], .made itemV_len B (by omega) (by rw [← hB]; exact heap_alloc_new w _), List.Perm.nil, List.Pairwise.nil⟩, (Mix.Ex.refl _).alloc _⟩
  case round =>
    obtain ⟨kk, g, cap, hk, rfl, rfl, ⟨M, hrow, hperm, hsrt⟩, hx⟩ := hrel
    have hml : M.length = kk := by rw [hperm.length_eq, List.length_take]; have := HN.out; omega
    have HML := Lib.hid hml
    have HPERM := Lib.hid hperm
    have HSRT := Lib.hid hsrt
    clear hml hperm hsrt
    by_cases hlt : kk < n
    case neg =>
      have e : L.take kk = L := List.take_of_length_le (by have := HN.out; omega)
      have hkn : kk = n := by omega
      subst hkn
      go_wp2_with fail
      go_ret
      exact ⟨M, g, cap, rfl, by first | exact hrow | (rw [hB]; exact hrow), by rw [← e]; exact HPERM.out, HSRT.out, hx⟩
    obtain ⟨g0, rfl⟩ := ho (by omega)
    obtain ⟨y, hy⟩ : ∃ y, L[kk]? = some y := ⟨L[kk]'(by have := HN.out; omega), List.getElem?_eq_getElem _⟩
    obtain ⟨l0, l1, l2, l3, l4⟩ := row_cells5 (HR.out.ex hx) hy
    have hsn : L.take (kk + 1) = L.take kk ++ [y] := takeN_snoc hy
    have HSN := Lib.hid hsn
    have hbs := hx.below.size
    clear hsn hy
    have hx1 := (hx.alloc (.cells (itemV y).toArray 35)).alloc (.cells (itemV y).toArray 35)
    have hrow1 := hrow.ex (((Mix.Ex.refl wr).alloc (.cells (itemV y).toArray 35)).alloc (.cells (itemV y).toArray 35))
    have HX1 := Lib.hid hx1
    clear hx hx1 hrow
    go_upto_region 5 with (fail)
    go_wp2_with (at_builtin; refine wpList_append_row _ rfl (.tmp 14) (.tmp 16) 26 rfl B 35 i0 _ 5 40 Try.underlying26 hi0 hz0 hz1 hz2 rfl (by omega) itemV (.slice (some ⟨g, 0, none⟩) kk cap) M y rfl hrow1 ⟨wr.heap.size + 1, 0, none⟩ 1 rfl (World.news_of_block (cs := (itemV y).toArray) (by rw [show wr.heap.size + 1 = (wr.alloc (.cells (itemV y).toArray 35)).heap.size by simp]; exact heap_alloc_new _ _)) (itemV_one y) (by rw [HML.out]; unfold maxLen; omega) (by rw [HML.out]; omega) (by simp; omega) ?_; intro g2 cap2 w3 hrow3 hgrow hat2 hlt2; rw [HML.out] at hrow3 ⊢)
    have hx3 := HX1.out.grown hgrow (fun j hj => by have := (hrow1.lt j hj).1; omega)
    have hd0 := Dn.start HSRT.out y
    rw [HML.out] at hd0
    have HX3 := Lib.hid hx3
    have HD0 := Lib.hid hd0
    have HROW3 := Lib.hid hrow3
    clear hrow1 hgrow hat2 l0 l1 l2 l3 l4 hx3 hd0 hrow3
    have i1 : ((kk + 1 : Nat) : Int) - 1 = kk := by omega
    go_upto_region 7 with (fail)
    clear i1
    go_loopw [6] (fun i wr => ∃ j : Nat, j ≤ kk ∧ i = .int .i64 j ∧ (∃ M', wr.Row B 35 5 itemV (.slice (some ⟨g2, 0, none⟩) (kk + 1) cap2) M' ∧ Dn M y j M') ∧ Mix.Ex w wr) (fun i _ => (intOf i).toNat)
    case atStart => exact ⟨kk, Nat.le_refl _, rfl, ⟨_, HROW3.out, HD0.out⟩, HX3.out⟩
    case round =>
      obtain ⟨j, hj, rfl, ⟨M', hrow', hdn⟩, hx⟩ := hrel
      have hml' : M'.length = kk + 1 := by rw [hdn.len.1, HML.out]
      have hpm : M'.Perm (L.take (kk + 1)) := by
        rw [HSN.out]
        exact (hdn.perm.trans (HPERM.out.cons y)).trans (List.perm_append_singleton _ _).symm
      have HPM := Lib.hid hpm
      have HML' := Lib.hid hml'
      clear hpm hml'
      by_cases hj0 : j = 0
      · subst hj0
        have hs := hdn.zero
        have HS := Lib.hid hs
        clear hdn hs
        go_upto_region 7 with (fail)
        (refine Mix.wp_region_ex (by kernel_rfl) (by kernel_rfl) ?_; (repeat (go_big_quiet_step (fail))); refine wpQuiet_nil ?_; intro nq)
        have HROW' := Lib.hid hrow'
        have HX := Lib.hid hx
        clear hrow' hx
        go_wp2_with fail
        go_roundw
        case measure => simp [intOf]; omega
        case rel => exact ⟨kk + 1, g2, cap2, by omega, by go_num, rfl, ⟨M', HROW'.out.ex ((Mix.Ex.refl _).ext _), HPM.out, HS.out⟩, HX.out.ext _⟩
      obtain ⟨jp, hjp⟩ : ∃ jp, j = jp + 1 := ⟨j - 1, by omega⟩
      have hdn' := hdn
      rw [hjp] at hdn'
      obtain ⟨z, hz, hno, hyes⟩ := hdn'.prev
      have hy' := hdn.at
      obtain ⟨a0, a1, a2, a3, a4⟩ := row_cells5 hrow' hy'
      obtain ⟨c0, c1, c2, c3, c4⟩ := row_cells5 hrow' hz
      have i1 : (j : Int) - 1 = jp := by omega
      have hjlt : jp < j := by omega
      have hjpos : 0 < j := by omega
      have hg2 := (hrow'.lt g2 rfl)
      have hgw := hg2.2
      have hgB : w.heap.size ≤ g2 := by omega
      have HJP := Lib.hid hjp
      have HROW' := Lib.hid hrow'
      have HX := Lib.hid hx
      have HYES := Lib.hid hyes
      have HNO := Lib.hid hno
      have hL := fun W => less_c W y z
      have HDN := Lib.hid hdn
      have HZ := Lib.hid hz
      clear hdn' hdn hyes hno hy' hz hjp hj0 hg2
      by_cases hlt' : ltI y z
      · have hd : decide (ltI y z) = true := decide_eq_true hlt'
        rw [hd] at hL
        have HLT := Lib.hid hlt'
        clear hd hlt'
        go_upto_region 7 with (fail)
        clear hx hrow'
        (refine Mix.wp_region_ex (by kernel_rfl) (by kernel_rfl) ?_; (repeat (go_big_quiet_step ((go_at_call 52; exact Mix.calls_qx (hL _) (fun y => ⟨_, World.ext_ext _ _ _⟩))))); refine wpQuiet_nil ?_; intro nq)
        have hrow9 := HROW'.out.ex ((Mix.Ex.refl wr).ext nq)
        have hx9 := HX.out.ext nq
        clear a0 a1 a2 a3 a4 c0 c1 c2 c3 c4 hL hgw
        generalize (wr.ext nq) = w9 at hrow9 hx9 ⊢
        go_upto_region 9 with (fail)
        obtain ⟨a0, a1, a2, a3, a4⟩ := row_cells5 hrow9 HDN.out.at
        obtain ⟨c0, c1, c2, c3, c4⟩ := row_cells5 hrow9 HZ.out
        have a0 : (w9.drewN 1).cell? _ = _ := a0
        have a1 : (w9.drewN 1).cell? _ = _ := a1
        have a2 : (w9.drewN 1).cell? _ = _ := a2
        have a3 : (w9.drewN 1).cell? _ = _ := a3
        have a4 : (w9.drewN 1).cell? _ = _ := a4
        have c0 : (w9.drewN 1).cell? _ = _ := c0
        have c1 : (w9.drewN 1).cell? _ = _ := c1
        have c2 : (w9.drewN 1).cell? _ = _ := c2
        have c3 : (w9.drewN 1).cell? _ = _ := c3
        have c4 : (w9.drewN 1).cell? _ = _ := c4
        have hrowA := hrow9.ex ((Mix.Ex.refl w9).drewN 1)
        have hxA := hx9.drewN 1
        clear hrow9 hx9
        have HC : True := trivial
        have hjk1 : (jp : Int) < (kk : Int) + 1 := by omega
        have hjk2 : (j : Int) < (kk : Int) + 1 := by omega
        have hwj : IntKind.i64.wrap (jp : Int) = jp := by rw [IntKind.wrap_i64]; omega
        refine wp_region_K (fun _ => True) 17 (by kernel_rfl) ?_
        change wpAnyK _ _ _ _ _ 18 (Array.replicate 18 false) _ _
        (refine wpAnyK_take (i := 0) (oi := ?_) (v := ?_) ?_ ?_ ?_ ?_ ?_ ?_ ?_ ?_ ?_; rotate_left 2; (focus (simp only [List.getElem?_toArray, List.getElem?_cons_zero, List.getElem?_cons_succ]; rfl)); (focus kernel_rfl); (focus kernel_rfl); (focus kernel_rfl); (focus kernel_rfl); (focus exact fun _ _ _ h => h); (focus (refine Or.inl ⟨by rfl, ?_⟩; intro W hW; (try dsimp only at hW); go_simp; try with_reducible rfl)); (focus exact HC); (try simp only [Act.put, List.setIfInBounds_toArray, List.set_cons_zero, List.set_cons_succ]))
        (refine wpAnyK_take (i := 1) (oi := ?_) (v := ?_) ?_ ?_ ?_ ?_ ?_ ?_ ?_ ?_ ?_; rotate_left 2; (focus (simp only [List.getElem?_toArray, List.getElem?_cons_zero, List.getElem?_cons_succ]; rfl)); (focus kernel_rfl); (focus kernel_rfl); (focus kernel_rfl); (focus kernel_rfl); (focus exact fun _ _ _ h => h); (focus (refine Or.inl ⟨by rfl, ?_⟩; intro W hW; (try dsimp only at hW); go_simp; try with_reducible rfl)); (focus exact HC); (try simp only [Act.put, List.setIfInBounds_toArray, List.set_cons_zero, List.set_cons_succ]))
        (refine wpAnyK_take (i := 2) (oi := ?_) (v := ?_) ?_ ?_ ?_ ?_ ?_ ?_ ?_ ?_ ?_; rotate_left 2; (focus (simp only [List.getElem?_toArray, List.getElem?_cons_zero, List.getElem?_cons_succ]; rfl)); (focus kernel_rfl); (focus kernel_rfl); (focus kernel_rfl); (focus kernel_rfl); (focus exact fun _ _ _ h => h); (focus (refine Or.inl ⟨by rfl, ?_⟩; intro W hW; (try dsimp only at hW); go_simp; try with_reducible rfl)); (focus exact HC); (try simp only [Act.put, List.setIfInBounds_toArray, List.set_cons_zero, List.set_cons_succ]))
        (refine wpAnyK_take (i := 3) (oi := ?_) (v := ?_) ?_ ?_ ?_ ?_ ?_ ?_ ?_ ?_ ?_; rotate_left 2; (focus (simp only [List.getElem?_toArray, List.getElem?_cons_zero, List.getElem?_cons_succ]; rfl)); (focus kernel_rfl); (focus kernel_rfl); (focus kernel_rfl); (focus kernel_rfl); (focus exact fun _ _ _ h => h); (focus (refine Or.inl ⟨by rfl, ?_⟩; intro W hW; (try dsimp only at hW); go_simp; try with_reducible rfl)); (focus exact HC); (try simp only [Act.put, List.setIfInBounds_toArray, List.set_cons_zero, List.set_cons_succ]))
        (refine wpAnyK_take (i := 4) (oi := ?_) (v := ?_) ?_ ?_ ?_ ?_ ?_ ?_ ?_ ?_ ?_; rotate_left 2; (focus (simp only [List.getElem?_toArray, List.getElem?_cons_zero, List.getElem?_cons_succ]; rfl)); (focus kernel_rfl); (focus kernel_rfl); (focus kernel_rfl); (focus kernel_rfl); (focus exact fun _ _ _ h => h); (focus (refine Or.inl ⟨by rfl, ?_⟩; intro W hW; (try dsimp only at hW); go_simp; try with_reducible rfl)); (focus exact HC); (try simp only [Act.put, List.setIfInBounds_toArray, List.set_cons_zero, List.set_cons_succ]))
        (refine wpAnyK_take (i := 5) (oi := ?_) (v := ?_) ?_ ?_ ?_ ?_ ?_ ?_ ?_ ?_ ?_; rotate_left 2; (focus (simp only [List.getElem?_toArray, List.getElem?_cons_zero, List.getElem?_cons_succ]; rfl)); (focus kernel_rfl); (focus kernel_rfl); (focus kernel_rfl); (focus kernel_rfl); (focus exact fun _ _ _ h => h); (focus (refine Or.inl ⟨by rfl, ?_⟩; intro W hW; (try dsimp only at hW); go_simp; try with_reducible rfl)); (focus exact HC); (try simp only [Act.put, List.setIfInBounds_toArray, List.set_cons_zero, List.set_cons_succ]))
        (refine wpAnyK_take (i := 6) (oi := ?_) (v := ?_) ?_ ?_ ?_ ?_ ?_ ?_ ?_ ?_ ?_; rotate_left 2; (focus (simp only [List.getElem?_toArray, List.getElem?_cons_zero, List.getElem?_cons_succ]; rfl)); (focus kernel_rfl); (focus kernel_rfl); (focus kernel_rfl); (focus kernel_rfl); (focus exact fun _ _ _ h => h); (focus (refine Or.inl ⟨by rfl, ?_⟩; intro W hW; (try dsimp only at hW); go_simp; try with_reducible rfl)); (focus exact HC); (try simp only [Act.put, List.setIfInBounds_toArray, List.set_cons_zero, List.set_cons_succ]))
        (refine wpAnyK_take (i := 7) (oi := ?_) (v := ?_) ?_ ?_ ?_ ?_ ?_ ?_ ?_ ?_ ?_; rotate_left 2; (focus (simp only [List.getElem?_toArray, List.getElem?_cons_zero, List.getElem?_cons_succ]; rfl)); (focus kernel_rfl); (focus kernel_rfl); (focus kernel_rfl); (focus kernel_rfl); (focus exact fun _ _ _ h => h); (focus (refine Or.inl ⟨by rfl, ?_⟩; intro W hW; (try dsimp only at hW); go_simp; try with_reducible rfl)); (focus exact HC); (try simp only [Act.put, List.setIfInBounds_toArray, List.set_cons_zero, List.set_cons_succ]))
        (refine wpAnyK_take (i := 8) (oi := ?_) (v := ?_) ?_ ?_ ?_ ?_ ?_ ?_ ?_ ?_ ?_; rotate_left 2; (focus (simp only [List.getElem?_toArray, List.getElem?_cons_zero, List.getElem?_cons_succ]; rfl)); (focus kernel_rfl); (focus kernel_rfl); (focus kernel_rfl); (focus kernel_rfl); (focus exact fun _ _ _ h => h); (focus (refine Or.inl ⟨by rfl, ?_⟩; intro W hW; (try dsimp only at hW); go_simp; try with_reducible rfl)); (focus exact HC); (try simp only [Act.put, List.setIfInBounds_toArray, List.set_cons_zero, List.set_cons_succ]))
        (refine wpAnyK_take (i := 10) (oi := ?_) (v := ?_) ?_ ?_ ?_ ?_ ?_ ?_ ?_ ?_ ?_; rotate_left 2; (focus (simp only [List.getElem?_toArray, List.getElem?_cons_zero, List.getElem?_cons_succ]; rfl)); (focus kernel_rfl); (focus kernel_rfl); (focus kernel_rfl); (focus kernel_rfl); (focus exact fun _ _ _ h => h); (focus (refine Or.inl ⟨by rfl, ?_⟩; intro W hW; (try dsimp only at hW); go_simp; try with_reducible rfl)); (focus exact HC); (try simp only [Act.put, List.setIfInBounds_toArray, List.set_cons_zero, List.set_cons_succ]))
        (refine wpAnyK_take (i := 11) (oi := ?_) (v := ?_) ?_ ?_ ?_ ?_ ?_ ?_ ?_ ?_ ?_; rotate_left 2; (focus (simp only [List.getElem?_toArray, List.getElem?_cons_zero, List.getElem?_cons_succ]; rfl)); (focus kernel_rfl); (focus kernel_rfl); (focus kernel_rfl); (focus kernel_rfl); (focus exact fun _ _ _ h => h); (focus (refine Or.inl ⟨by rfl, ?_⟩; intro W hW; (try dsimp only at hW); go_simp; try with_reducible rfl)); (focus exact HC); (try simp only [Act.put, List.setIfInBounds_toArray, List.set_cons_zero, List.set_cons_succ]))
        (refine wpAnyK_take (i := 12) (oi := ?_) (v := ?_) ?_ ?_ ?_ ?_ ?_ ?_ ?_ ?_ ?_; rotate_left 2; (focus (simp only [List.getElem?_toArray, List.getElem?_cons_zero, List.getElem?_cons_succ]; rfl)); (focus kernel_rfl); (focus kernel_rfl); (focus kernel_rfl); (focus kernel_rfl); (focus exact fun _ _ _ h => h); (focus (refine Or.inl ⟨by rfl, ?_⟩; intro W hW; (try dsimp only at hW); go_simp; try with_reducible rfl)); (focus exact HC); (try simp only [Act.put, List.setIfInBounds_toArray, List.set_cons_zero, List.set_cons_succ]))
        clear hwj
        generalize w9.drewN 1 = wA at a0 a1 a2 a3 a4 c0 c1 c2 c3 c4 hrowA hxA ⊢
        have HROWA := Lib.hid hrowA
        have HXA := Lib.hid hxA
        clear hrowA hxA
        refine wpAnyK_rgC (us := [9, 13]) (fun _ _ => True)
          (fun i v W => match i with
            | 9 => v = .agg #[.int .i64 z.1.x0, .int .i64 z.1.y0, .int .i64 z.1.x1, .int .i64 z.1.y1, .int .i64 z.2]
            | 13 => v = .agg #[.int .i64 y.1.x0, .int .i64 y.1.y0, .int .i64 y.1.x1, .int .i64 y.1.y1, .int .i64 y.2]
            | _ => True)
          (fun _ => Mix.Ex) (fun W => wA = W) (by kernel_rfl) 4 (fun _ _ => trivial) rfl (fun _ _ => trivial) (fun _ _ _ _ _ _ _ _ _ => trivial) ?_ ?_ ?_
        · intro i hi j' hj' hij v W W' hv hg
          simp only [List.mem_cons, List.not_mem_nil, or_false] at hi
          rcases hi with rfl | rfl
          · exact hv
          · exact hv
        · intro i hi
          simp only [List.mem_cons, List.not_mem_nil, or_false] at hi
          rcases hi with rfl | rfl
          · intro o ho v0 W hI hb hd K hK
            simp only [List.getElem?_toArray, List.getElem?_cons_zero, List.getElem?_cons_succ, Option.some.injEq] at ho
            subst ho
            simp only [putU, dstOf, List.getElem?_toArray, List.getElem?_cons_zero, List.getElem?_cons_succ, Option.bind_some, Act.put, List.setIfInBounds_toArray, List.set_cons_zero, List.set_cons_succ] at hK ⊢
            subst hI
            clear hd hb
            go_simp
            exact hK _ _ rfl (Mix.Ex.refl _) rfl
          · intro o ho v0 W hI hb hd K hK
            simp only [List.getElem?_toArray, List.getElem?_cons_zero, List.getElem?_cons_succ, Option.some.injEq] at ho
            subst ho
            simp only [putU, dstOf, List.getElem?_toArray, List.getElem?_cons_zero, List.getElem?_cons_succ, Option.bind_some, Act.put, List.setIfInBounds_toArray, List.set_cons_zero, List.set_cons_succ] at hK ⊢
            subst hI
            clear hd hb
            go_simp
            exact hK _ _ rfl (Mix.Ex.refl _) rfl
        intro v0 W hI hA
        subst hI
        have e9 : v0 9 = _ := hA 9 (by simp)
        have e13 : v0 13 = _ := hA 13 (by simp)
        clear hA
        simp only [putU, dstOf, List.getElem?_toArray, List.getElem?_cons_zero, List.getElem?_cons_succ, Option.bind_some, Act.put, List.setIfInBounds_toArray, List.set_cons_zero, List.set_cons_succ]
        rw [e9, e13]
        clear e9 e13 v0
        clear c0 c1 c2 c3 c4
        (refine wpAnyK_one (i := 14) (o := ?_) ?_ ?_ ?_ (fun K hK => ?_); rotate_left 1; (focus kernel_rfl); (focus (simp only [List.getElem?_toArray, List.getElem?_cons_zero, List.getElem?_cons_succ]; rfl)); (focus rfl))
        go_simp
        refine hK _ _ (fun _ => trivial) ?_
        clear hK K
        have f0 := Row.frz HROWA.out (j * 5)
        have f1 := Row.frz HROWA.out (j * 5 + 1)
        have f2 := Row.frz HROWA.out (j * 5 + 2)
        have f3 := Row.frz HROWA.out (j * 5 + 3)
        have f4 := Row.frz HROWA.out (j * 5 + 4)
        have r1 := Row.setItem HROWA.out HML'.out (k := j) (by omega) z
        have x1 := (((((HXA.out.setCell (p := ⟨g2, j * 5, none⟩) hgB (.int .i64 z.1.x0)).setCell (p := ⟨g2, j * 5 + 1, none⟩) hgB (.int .i64 z.1.y0)).setCell (p := ⟨g2, j * 5 + 2, none⟩) hgB (.int .i64 z.1.x1)).setCell (p := ⟨g2, j * 5 + 3, none⟩) hgB (.int .i64 z.1.y1)).setCell (p := ⟨g2, j * 5 + 4, none⟩) hgB (.int .i64 z.2))
        have R1 := Lib.hid r1
        have X1 := Lib.hid x1
        clear r1 x1
        (refine wpAnyK_one (i := 15) (o := ?_) ?_ ?_ ?_ (fun K hK => ?_); rotate_left 1; (focus kernel_rfl); (focus (simp only [List.getElem?_toArray, List.getElem?_cons_zero, List.getElem?_cons_succ]; rfl)); (focus rfl))
        go_simp
        generalize (((((wA.setCell ⟨g2, j * 5, none⟩ (.int .i64 z.1.x0)).setCell ⟨g2, j * 5 + 1, none⟩ (.int .i64 z.1.y0)).setCell ⟨g2, j * 5 + 2, none⟩ (.int .i64 z.1.x1)).setCell ⟨g2, j * 5 + 3, none⟩ (.int .i64 z.1.y1)).setCell ⟨g2, j * 5 + 4, none⟩ (.int .i64 z.2)) = wB at R1 X1 hK ⊢
        refine hK _ _ (fun _ => trivial) ?_
        clear hK K a0 a1 a2 a3 a4 f0 f1 f2 f3 f4
        (refine wpAnyK_one (i := 16) (o := ?_) ?_ ?_ ?_ (fun K hK => ?_); rotate_left 1; (focus kernel_rfl); (focus (simp only [List.getElem?_toArray, List.getElem?_cons_zero, List.getElem?_cons_succ]; rfl)); (focus rfl))
        go_simp
        refine hK _ _ (fun _ => trivial) ?_
        clear hK K
        have hzB : (M'.set j z)[jp]? = some z := by rw [List.getElem?_set_ne (by omega)]; exact HZ.out
        obtain ⟨a0, a1, a2, a3, a4⟩ := row_cells5 R1.out hzB
        have f0 := Row.frz R1.out (jp * 5)
        have f1 := Row.frz R1.out (jp * 5 + 1)
        have f2 := Row.frz R1.out (jp * 5 + 2)
        have f3 := Row.frz R1.out (jp * 5 + 3)
        have f4 := Row.frz R1.out (jp * 5 + 4)
        have r2 := Row.setItem R1.out (by rw [List.length_set]; exact HML'.out) (k := jp) (by omega) y
        have x2 := (((((X1.out.setCell (p := ⟨g2, jp * 5, none⟩) hgB (.int .i64 y.1.x0)).setCell (p := ⟨g2, jp * 5 + 1, none⟩) hgB (.int .i64 y.1.y0)).setCell (p := ⟨g2, jp * 5 + 2, none⟩) hgB (.int .i64 y.1.x1)).setCell (p := ⟨g2, jp * 5 + 3, none⟩) hgB (.int .i64 y.1.y1)).setCell (p := ⟨g2, jp * 5 + 4, none⟩) hgB (.int .i64 y.2))
        have R2 := Lib.hid r2
        have X2 := Lib.hid x2
        clear r2 x2
        (refine wpAnyK_one (i := 17) (o := ?_) ?_ ?_ ?_ (fun K hK => ?_); rotate_left 1; (focus kernel_rfl); (focus (simp only [List.getElem?_toArray, List.getElem?_cons_zero, List.getElem?_cons_succ]; rfl)); (focus rfl))
        go_simp
        generalize (((((wB.setCell ⟨g2, jp * 5, none⟩ (.int .i64 y.1.x0)).setCell ⟨g2, jp * 5 + 1, none⟩ (.int .i64 y.1.y0)).setCell ⟨g2, jp * 5 + 2, none⟩ (.int .i64 y.1.x1)).setCell ⟨g2, jp * 5 + 3, none⟩ (.int .i64 y.1.y1)).setCell ⟨g2, jp * 5 + 4, none⟩ (.int .i64 y.2)) = wC at R2 X2 hK ⊢
        refine hK _ _ (fun _ => trivial) ?_
        clear hK K a0 a1 a2 a3 a4 f0 f1 f2 f3 f4 hzB
        refine wpAnyK_done (by kernel_rfl) ?_ _
        have hdf := HYES.out HLT.out
        rw [← HJP.out] at hdf
        have HDF := Lib.hid hdf
        clear hdf
        go_wp2_with fail
        go_roundw
        case measure => simp [intOf]; omega
        case rel => exact ⟨jp, by omega, by go_num, ⟨_, R2.out, HDF.out⟩, X2.out⟩
      · have hd : decide (ltI y z) = false := decide_eq_false hlt'
        rw [hd] at hL
        have hs := HNO.out hlt'
        have HS := Lib.hid hs
        clear hd hlt' hs hx hrow'
        go_upto_region 7 with (fail)
        (refine Mix.wp_region_ex (by kernel_rfl) (by kernel_rfl) ?_; (repeat (go_big_quiet_step ((go_at_call 52; exact Mix.calls_qx (hL _) (fun y => ⟨_, World.ext_ext _ _ _⟩))))); refine wpQuiet_nil ?_; intro nq)
        clear a0 a1 a2 a3 a4 c0 c1 c2 c3 c4 hL hgw
        go_wp2_with fail
        go_roundw
        case measure => simp [intOf]; omega
        case rel => exact ⟨kk + 1, g2, cap2, by omega, by go_num, rfl, ⟨M', HROW'.out.ex ((Mix.Ex.refl _).ext _), HPM.out, HS.out⟩, HX.out.ext _⟩
end Go.Proofs.Ytboeldlilkeihaa
