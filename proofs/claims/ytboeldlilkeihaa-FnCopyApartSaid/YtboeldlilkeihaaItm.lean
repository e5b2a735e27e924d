/- The contract of items: boxes and numbers put together; and what Scan lists. -/
import Derived.Test.YtboeldlilkeihaaZScan
set_option linter.unusedSimpArgs false
set_option linter.unusedVariables false
namespace Go.Proofs.Ytboeldlilkeihaa
open Go.RowKit Go.Bx
set_option maxRecDepth 100000 in
set_option maxHeartbeats 1600000 in
theorem implItems_c (w : World) (b1 b2 : Nat) (vb vd : Value) (L : List (R × Int)) (hrb : w.Row b1 71 4 bI vb L) (hrd : w.Row b2 3 1 dI vd L) (hl : L.length ≤ 900000) :
    Calls Try.prog 38 #[vb, vd] w fun e w' => ∃ g cap, e = .returned (.slice (some ⟨g, 0, none⟩) L.length cap) ∧ w'.Row w.heap.size 35 5 itemV (.slice (some ⟨g, 0, none⟩) L.length cap) L ∧ Mix.Ex w w' := by
  obtain ⟨i0, hi0, hz0, hz1, hz2⟩ := info_parts info_item
  obtain ⟨ob, cb, rfl, hob⟩ := hrb.slice
  obtain ⟨od, cd, rfl, hod⟩ := hrd.slice
  obtain ⟨n, hn⟩ : ∃ n, L.length = n := ⟨_, rfl⟩
  rw [hn] at hrb hrd hob hod hl ⊢
  have HN := Lib.hid hn
  have HRB := Lib.hid hrb
  have HRD := Lib.hid hrd
  obtain ⟨B, hB⟩ : ∃ B, w.heap.size = B := ⟨_, rfl⟩
  clear hn hrb hrd
  go_enter Try.func38, Try.ntmps38
  go_wp2_with fail
  go_loopw [5, 11] (fun v i wr => ∃ kk g cap : Nat, kk ≤ n ∧ i = .int .i64 kk ∧ v = .slice (some ⟨g, 0, none⟩) kk cap ∧ wr.Row B 35 5 itemV v (L.take kk) ∧ Mix.Ex w wr) (fun _ i _ => n - (intOf i).toNat)
  case atStart =>
    exact ⟨0, B, 0, by omega, rfl, rfl, .made itemV_len B (by omega) (by rw [← hB]; exact heap_alloc_new w _), (Mix.Ex.refl _).alloc _⟩
  case round =>
    obtain ⟨kk, g, cap, hk, rfl, rfl, hrow, hx⟩ := hrel
    by_cases hlt : kk < n
    case neg =>
      have hkn : kk = n := by omega
      have e : L.take kk = L := List.take_of_length_le (by have := HN.out; omega)
      rw [e] at hrow
      subst hkn
      go_wp2_with fail
      go_ret
      exact ⟨g, cap, rfl, by first | exact hrow | (rw [hB]; exact hrow), hx⟩
    obtain ⟨gb, rfl⟩ := hob (by have := HN.out; omega)
    obtain ⟨gd, rfl⟩ := hod (by have := HN.out; omega)
    obtain ⟨y, hy⟩ : ∃ y, L[kk]? = some y := ⟨L[kk]'(by have := HN.out; omega), List.getElem?_eq_getElem _⟩
    have l0 : wr.cell? ⟨gb, kk * 4, none⟩ = some (.int .i64 y.1.x0) := (HRB.out.ex hx).cell (j := 0) hy rfl
    have l1 : wr.cell? ⟨gb, kk * 4 + 1, none⟩ = some (.int .i64 y.1.y0) := (HRB.out.ex hx).cell (j := 1) hy rfl
    have l2 : wr.cell? ⟨gb, kk * 4 + 2, none⟩ = some (.int .i64 y.1.x1) := (HRB.out.ex hx).cell (j := 2) hy rfl
    have l3 : wr.cell? ⟨gb, kk * 4 + 3, none⟩ = some (.int .i64 y.1.y1) := (HRB.out.ex hx).cell (j := 3) hy rfl
    have hld := (HRD.out.ex hx).cell (j := 0) (u := .int .i64 y.2) hy rfl
    rw [Nat.mul_one, Nat.add_zero] at hld
    have hsn : L.take (kk + 1) = L.take kk ++ [y] := takeN_snoc hy
    have htl : (L.take kk).length = kk := by rw [List.length_take]; have := HN.out; omega
    have HSN := Lib.hid hsn
    have HTL := Lib.hid htl
    have hbs := hx.below.size
    have hgB : g < wr.heap.size := (hrow.lt g rfl).2
    have hBg : B ≤ g := (hrow.lt g rfl).1
    have hgd : gd < w.heap.size := (HRD.out.lt gd rfl).2
    clear hsn htl hy hob hod
    generalize L.take kk = K0 at hrow HSN HTL
    have hxa := hx.alloc (.cells #[.int .i64 y.1.x0, .int .i64 y.1.y0, .int .i64 y.1.x1, .int .i64 y.1.y1] 71)
    have n6 := heap_alloc_new wr (.cells #[.int .i64 y.1.x0, .int .i64 y.1.y0, .int .i64 y.1.x1, .int .i64 y.1.y1] 71)
    have hla := ((Mix.Ex.refl wr).alloc (.cells #[.int .i64 y.1.x0, .int .i64 y.1.y0, .int .i64 y.1.x1, .int .i64 y.1.y1] 71)).cell hld
    have hrow := hrow.ex ((Mix.Ex.refl wr).alloc (.cells #[.int .i64 y.1.x0, .int .i64 y.1.y0, .int .i64 y.1.x1, .int .i64 y.1.y1] 71))
    go_upto_region 5 with (fail)
    change Code.wp _ _ _ _ (wr.alloc (.cells #[.int .i64 y.1.x0, .int .i64 y.1.y0, .int .i64 y.1.x1, .int .i64 y.1.y1] 71))
    generalize hB7 : wr.heap.size = B7 at n6 hbs hgB ⊢
    generalize (wr.alloc (.cells #[.int .i64 y.1.x0, .int .i64 y.1.y0, .int .i64 y.1.x1, .int .i64 y.1.y1] 71)) = w7 at hxa n6 hla hrow ⊢
    clear l0 l1 l2 l3 hld hx
    have l0 : (w7.drewN 1).cell? ⟨B7, 0, none⟩ = some (.int .i64 y.1.x0) := by show w7.cell? _ = _; rw [cellOf n6]; rfl
    have l1 : (w7.drewN 1).cell? ⟨B7, 1, none⟩ = some (.int .i64 y.1.y0) := by show w7.cell? _ = _; rw [cellOf n6]; rfl
    have l2 : (w7.drewN 1).cell? ⟨B7, 2, none⟩ = some (.int .i64 y.1.x1) := by show w7.cell? _ = _; rw [cellOf n6]; rfl
    have l3 : (w7.drewN 1).cell? ⟨B7, 3, none⟩ = some (.int .i64 y.1.y1) := by show w7.cell? _ = _; rw [cellOf n6]; rfl
    have l4 : (w7.drewN 1).cell? ⟨gd, kk, none⟩ = some (.int .i64 y.2) := hla
    have HC := And.intro l0 (And.intro l1 (And.intro l2 (And.intro l3 l4)))
    have HXA := Lib.hid (hxa.drewN 1)
    have HROW := Lib.hid (hrow.ex ((Mix.Ex.refl w7).drewN 1))
    have hs7 : (w7.drewN 1).heap.size = w7.heap.size := rfl
    have hsz := hxa.below.size
    clear l0 l1 l2 l3 l4 hla hrow n6 hxa
    refine wp_region_K (fun W => W.cell? ⟨B7, 0, none⟩ = some (.int .i64 y.1.x0) ∧ W.cell? ⟨B7, 1, none⟩ = some (.int .i64 y.1.y0) ∧ W.cell? ⟨B7, 2, none⟩ = some (.int .i64 y.1.x1) ∧ W.cell? ⟨B7, 3, none⟩ = some (.int .i64 y.1.y1) ∧ W.cell? ⟨gd, kk, none⟩ = some (.int .i64 y.2)) 9 (by kernel_rfl) ?_
    change wpAnyK _ _ _ _ _ 10 (Array.replicate 10 false) _ _
    (refine wpAnyK_take (i := 0) (oi := ?_) (v := ?_) ?_ ?_ ?_ ?_ ?_ ?_ ?_ ?_ ?_; rotate_left 2; (focus (simp only [List.getElem?_toArray, List.getElem?_cons_zero, List.getElem?_cons_succ]; rfl)); (focus kernel_rfl); (focus kernel_rfl); (focus kernel_rfl); (focus kernel_rfl); (focus exact fun _ _ _ h => h); (focus (refine Or.inl ⟨by rfl, ?_⟩; intro W hW; (try dsimp only at hW); go_simp; try with_reducible rfl)); (focus exact HC); (try simp only [Act.put, List.setIfInBounds_toArray, List.set_cons_zero, List.set_cons_succ]))
    (refine wpAnyK_take (i := 1) (oi := ?_) (v := ?_) ?_ ?_ ?_ ?_ ?_ ?_ ?_ ?_ ?_; rotate_left 2; (focus (simp only [List.getElem?_toArray, List.getElem?_cons_zero, List.getElem?_cons_succ]; rfl)); (focus kernel_rfl); (focus kernel_rfl); (focus kernel_rfl); (focus kernel_rfl); (focus exact fun _ _ _ h => h); (focus (refine Or.inl ⟨by rfl, ?_⟩; intro W hW; (try dsimp only at hW); go_simp; try with_reducible rfl)); (focus exact HC); (try simp only [Act.put, List.setIfInBounds_toArray, List.set_cons_zero, List.set_cons_succ]))
    (refine wpAnyK_take (i := 2) (oi := ?_) (v := ?_) ?_ ?_ ?_ ?_ ?_ ?_ ?_ ?_ ?_; rotate_left 2; (focus (simp only [List.getElem?_toArray, List.getElem?_cons_zero, List.getElem?_cons_succ]; rfl)); (focus kernel_rfl); (focus kernel_rfl); (focus kernel_rfl); (focus kernel_rfl); (focus exact fun _ _ _ h => h); (focus (refine Or.inl ⟨by rfl, ?_⟩; intro W hW; (try dsimp only at hW); go_simp; try with_reducible rfl)); (focus exact HC); (try simp only [Act.put, List.setIfInBounds_toArray, List.set_cons_zero, List.set_cons_succ]))
    (refine wpAnyK_take (i := 3) (oi := ?_) (v := ?_) ?_ ?_ ?_ ?_ ?_ ?_ ?_ ?_ ?_; rotate_left 2; (focus (simp only [List.getElem?_toArray, List.getElem?_cons_zero, List.getElem?_cons_succ]; rfl)); (focus kernel_rfl); (focus kernel_rfl); (focus kernel_rfl); (focus kernel_rfl); (focus exact fun _ _ _ h => h); (focus (refine Or.inl ⟨by rfl, ?_⟩; intro W hW; (try dsimp only at hW); go_simp; try with_reducible rfl)); (focus exact HC); (try simp only [Act.put, List.setIfInBounds_toArray, List.set_cons_zero, List.set_cons_succ]))
    (refine wpAnyK_take (i := 4) (oi := ?_) (v := ?_) ?_ ?_ ?_ ?_ ?_ ?_ ?_ ?_ ?_; rotate_left 2; (focus (simp only [List.getElem?_toArray, List.getElem?_cons_zero, List.getElem?_cons_succ]; rfl)); (focus kernel_rfl); (focus kernel_rfl); (focus kernel_rfl); (focus kernel_rfl); (focus exact fun _ _ _ h => h); (focus (refine Or.inl ⟨by rfl, ?_⟩; intro W hW; (try dsimp only at hW); go_simp; try with_reducible rfl)); (focus exact HC); (try simp only [Act.put, List.setIfInBounds_toArray, List.set_cons_zero, List.set_cons_succ]))
    (refine wpAnyK_take (i := 5) (oi := ?_) (v := ?_) ?_ ?_ ?_ ?_ ?_ ?_ ?_ ?_ ?_; rotate_left 2; (focus (simp only [List.getElem?_toArray, List.getElem?_cons_zero, List.getElem?_cons_succ]; rfl)); (focus kernel_rfl); (focus kernel_rfl); (focus kernel_rfl); (focus kernel_rfl); (focus exact fun _ _ _ h => h); (focus (refine Or.inl ⟨by rfl, ?_⟩; intro W hW; (try dsimp only at hW); go_simp; try with_reducible rfl)); (focus exact HC); (try simp only [Act.put, List.setIfInBounds_toArray, List.set_cons_zero, List.set_cons_succ]))
    (refine wpAnyK_take (i := 6) (oi := ?_) (v := ?_) ?_ ?_ ?_ ?_ ?_ ?_ ?_ ?_ ?_; rotate_left 2; (focus (simp only [List.getElem?_toArray, List.getElem?_cons_zero, List.getElem?_cons_succ]; rfl)); (focus kernel_rfl); (focus kernel_rfl); (focus kernel_rfl); (focus kernel_rfl); (focus exact fun _ _ _ h => h); (focus (refine Or.inl ⟨by rfl, ?_⟩; intro W hW; (try dsimp only at hW); go_simp; try with_reducible rfl)); (focus exact HC); (try simp only [Act.put, List.setIfInBounds_toArray, List.set_cons_zero, List.set_cons_succ]))
    generalize w7.drewN 1 = w8 at HC HXA HROW hs7 ⊢
    have HS7 := Lib.hid hs7
    clear hs7
    (refine wpAnyK_one (i := 7) (o := ?_) ?_ ?_ ?_ (fun K hK => ?_); rotate_left 1; (focus kernel_rfl); (focus (simp only [List.getElem?_toArray, List.getElem?_cons_zero, List.getElem?_cons_succ]; rfl)); (focus rfl))
    go_simp
    have hs7 := HS7.out
    have hnew := heap_alloc_new w8 (.cells #[.int .i64 y.1.x0, .int .i64 y.1.y0, .int .i64 y.1.x1, .int .i64 y.1.y1, .int .i64 y.2] 35)
    have hx9 := HXA.out.alloc (.cells #[.int .i64 y.1.x0, .int .i64 y.1.y0, .int .i64 y.1.x1, .int .i64 y.1.y1, .int .i64 y.2] 35)
    have hr9 := HROW.out.ex ((Mix.Ex.refl w8).alloc (.cells #[.int .i64 y.1.x0, .int .i64 y.1.y0, .int .i64 y.1.x1, .int .i64 y.1.y1, .int .i64 y.2] 35))
    have hc9 : ∀ {a v}, w8.cell? a = some v → (w8.alloc (.cells #[.int .i64 y.1.x0, .int .i64 y.1.y0, .int .i64 y.1.x1, .int .i64 y.1.y1, .int .i64 y.2] 35)).cell? a = some v := fun h => ((Mix.Ex.refl w8).alloc _).cell h
    obtain ⟨k0, k1, k2, k3, k4⟩ := HC
    refine hK _ _ (fun _ => ⟨hc9 k0, hc9 k1, hc9 k2, hc9 k3, hc9 k4⟩) ?_
    clear hK K
    have HC9 := And.intro (hc9 k0) (And.intro (hc9 k1) (And.intro (hc9 k2) (And.intro (hc9 k3) (hc9 k4))))
    generalize hG : w8.heap.size = G at hnew hs7 ⊢
    generalize (w8.alloc (.cells #[.int .i64 y.1.x0, .int .i64 y.1.y0, .int .i64 y.1.x1, .int .i64 y.1.y1, .int .i64 y.2] 35)) = w9 at HC9 hnew hx9 hr9 ⊢
    clear k0 k1 k2 k3 k4 hc9 HXA HROW hG
    have hs9 := (Array.getElem?_eq_some_iff.1 hnew).1
    (refine wpAnyK_one (i := 8) (o := ?_) ?_ ?_ ?_ (fun K hK => ?_); rotate_left 1; (focus kernel_rfl); (focus (simp only [List.getElem?_toArray, List.getElem?_cons_zero, List.getElem?_cons_succ]; rfl)); (focus rfl))
    refine wp_append_row (.tmp 16) (.tmp 23) 26 rfl B 35 i0 _ 5 40 Try.underlying26 hi0 hz0 hz1 hz2 rfl (by omega) itemV (.slice (some ⟨g, 0, none⟩) kk cap) K0 y rfl hr9 ⟨G, 0, none⟩ 1 rfl (news_of_cells (vs := itemV y) hnew) (itemV_one y) (by rw [HTL.out]; unfold maxLen; omega) (by rw [HTL.out]; omega) (by omega) ?_
    intro g2 cap2 w10 hr10 hg10 ho10 hlt10
    rw [HTL.out] at hr10 ⊢
    rw [← HSN.out] at hr10
    have hx10 := hx9.grown hg10 (fun j hj => by have := (hr9.lt j hj).1; omega)
    have hrl := (hr9.lt g rfl)
    have hbk : ∀ {b : Nat} {o : Nat} {v : Value}, b ≠ g → w9.cell? ⟨b, o, none⟩ = some v → w10.cell? ⟨b, o, none⟩ = some v := fun {b o v} hb h => by
      have h1 : b < w9.heap.size := World.block_lt_of_cell? w9 _ h
      have h2 := hg10.block b h1 (by simp only [Value.ownBlock, ne_eq, Option.some.injEq]; exact hb)
      unfold World.cell? at h ⊢
      dsimp only at h ⊢
      rw [h2]; exact h
    obtain ⟨k0, k1, k2, k3, k4⟩ := HC9
    have hb7 : B7 ≠ g := by omega
    have hbd : gd ≠ g := by omega
    refine hK _ _ (fun _ => ⟨hbk hb7 k0, hbk hb7 k1, hbk hb7 k2, hbk hb7 k3, hbk hbd k4⟩) ?_
    clear hK K
    have HC10 := And.intro (hbk hb7 k0) (And.intro (hbk hb7 k1) (And.intro (hbk hb7 k2) (And.intro (hbk hb7 k3) (hbk hbd k4))))
    have HR10 := Lib.hid hr10
    have HX10 := Lib.hid hx10
    clear hr10 hx10 hbk k0 k1 k2 k3 k4 hr9 hnew hg10 ho10 hrl
    (refine wpAnyK_one (i := 9) (o := ?_) ?_ ?_ ?_ (fun K hK => ?_); rotate_left 1; (focus kernel_rfl); (focus (simp only [List.getElem?_toArray, List.getElem?_cons_zero, List.getElem?_cons_succ]; rfl)); (focus rfl))
    go_simp
    refine hK _ _ (fun _ => HC10) ?_
    clear hK K
    refine wpAnyK_done (by kernel_rfl) ?_ _
    clear HC10
    go_wp2_with fail
    go_roundw
    case measure => simp [intOf]; omega
    case rel => exact ⟨kk + 1, g2, cap2, by omega, by go_num, rfl, HR10.out, HX10.out⟩
set_option maxRecDepth 100000 in
theorem implScan_c (w : World) (S : List Stp) (hS : ∀ st ∈ S, st.ok) (hm : S.length ≤ 900000) (b0 g cap n : Nat) (hn : S.length = n) (hr : w.Row b0 37 11 stepV (.slice (some ⟨g, 0, none⟩) n cap) S) (hl : (itT (Bx.runT tre0 S)).length ≤ 900000) :
    Calls Try.prog 21 #[.slice (some ⟨g, 0, none⟩) n cap] w fun e w' => ∃ g2 cap2, e = .returned (.slice (some ⟨g2, 0, none⟩) (itT (Bx.runT tre0 S)).length cap2) ∧
      w'.Row w.heap.size 35 5 itemV (.slice (some ⟨g2, 0, none⟩) (itT (Bx.runT tre0 S)).length cap2) (itT (Bx.runT tre0 S)) ∧ Mix.Ex w w' := by
  have hG := grown_c w S hS hm b0 g cap (by rw [hn]; exact hr)
  rw [hn] at hG
  generalize Bx.runT tre0 S = T at hG hl ⊢
  go_enter Try.func21, Try.ntmps21
  go_wp2_with fail
  refine hG.mono ?_
  rintro e w2 ⟨tr, s, rfl, hM, -, -, hx⟩
  go_wp2_with fail
  refine (zzScan_c hM hl).mono ?_
  rintro e w3 ⟨vb, vd, rfl, hrb, hrd, hx3⟩
  have hI := implItems_c w3 _ _ vb vd (itT T) hrb hrd hl
  obtain ⟨ob, cb, rfl, -⟩ := hrb.slice
  obtain ⟨od, cd, rfl, -⟩ := hrd.slice
  have hs2 := hx.below.size
  have hs3 := hx3.below.size
  clear hrb hrd
  go_wp2_with fail
  refine hI.mono ?_
  rintro e w4 ⟨g2, cap2, rfl, hrow, hx4⟩
  go_wp2_with fail
  go_ret
  exact ⟨g2, cap2, rfl, hrow.mono (by omega), (hx.trans hx3).trans hx4⟩
end Go.Proofs.Ytboeldlilkeihaa
