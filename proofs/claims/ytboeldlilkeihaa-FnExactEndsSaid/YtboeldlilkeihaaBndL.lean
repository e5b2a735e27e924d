/- The law on the bounds: the walks of Bounds and of the law. -/
import Derived.Test.YtboeldlilkeihaaLenL
set_option linter.unusedSimpArgs false
set_option linter.unusedVariables false
namespace Go.Bx
/-- The tree's box is the least one around its items. -/
theorem TreOk.bd {T : Tre} (h : TreOk T) : (itT T = [] → T.rect = R0) ∧ (itT T ≠ [] → Bd T.rect ((itT T).map (·.1))) := by
  unfold TreOk at h
  unfold itT
  cases hr : T.root with
  | none => rw [hr] at h; exact ⟨fun _ => h.2, fun k => absurd rfl k⟩
  | some q =>
    rw [hr] at h
    obtain ⟨⟨_, h2, _⟩, _⟩ := h
    refine ⟨fun k => absurd ?_ h2.ne, fun _ => h2⟩
    dsimp only at k
    rw [k]; rfl
/-- The box that the law reckons. -/
def around : List (R × Int) → R
  | [] => R0
  | x :: L => L.foldl (fun r y => r.expand y.1) x.1
theorem around_bd (x : R × Int) (L : List (R × Int)) : Bd (around (x :: L)) ((x :: L).map (·.1)) := by
  have key : ∀ (L : List (R × Int)) (r : R) (M : List R), Bd r M → Bd (L.foldl (fun r y => r.expand y.1) r) ((L.map (·.1)).reverse ++ M) := by
    intro L
    induction L with
    | nil => intro r M h; simpa using h
    | cons y L ih =>
      intro r M h
      have := ih (r.expand y.1) (y.1 :: M) (h.expand y.1)
      simpa using this
  have := key L x.1 [x.1] (.one x.1)
  refine this.perm ?_
  simp only [List.map_cons]
  exact ((List.reverse_perm _).append_right _).trans (List.perm_append_singleton _ _) |>.symm
theorem bounds_eq {T : Tre} (h : TreOk T) {L : List (R × Int)} (hp : (itT T).Perm L) : T.rect = around L := by
  obtain ⟨h1, h2⟩ := h.bd
  cases L with
  | nil => exact h1 (List.Perm.eq_nil hp)
  | cons x L =>
    have hn : itT T ≠ [] := fun e => by rw [e] at hp; exact absurd hp.symm.eq_nil (by simp)
    exact (h2 hn).uniq ((around_bd x L).perm (hp.map _))
theorem expand_self (r : R) : r.expand r = r := by
  obtain ⟨a, b, c, d⟩ := r
  simp [R.expand]
theorem around_snoc (L : List (R × Int)) (y : R × Int) : around (L ++ [y]) = if L = [] then y.1 else (around L).expand y.1 := by
  cases L with
  | nil => rfl
  | cons x L => simp [around]
end Go.Bx
namespace Go.Proofs.Ytboeldlilkeihaa
open Go.RowKit Go.Bx
set_option maxRecDepth 100000 in
set_option maxHeartbeats 1600000 in
theorem treeBounds_c {c : Int} {Z : Nat → Prop} {w : World} {p : Nat} {T : Tre} {cw : Value} {s : Nat → Prop} (hM : TreeM c Z w p T cw s) :
    Calls Try.prog 39 #[.pointer (some ⟨p, 0, none⟩)] w fun e w' => e = .returned (.tuple #[.agg #[.int .i64 T.rect.x0, .int .i64 T.rect.y0], .agg #[.int .i64 T.rect.x1, .int .i64 T.rect.y1]]) ∧ Mix.Ex w w' := by
  obtain ⟨rt, hT, -⟩ := hM.at_
  generalize T.rect = r at hT ⊢
  unfold TreeAt at hT
  have HT := Lib.hid hT
  clear hT hM
  go_enter Try.func39, Try.ntmps39
  go_upto_region 1 with (fail)
  have hxa := ((Mix.Ex.refl w).alloc (.cells #[.int .i64 0, .int .i64 0] 28)).alloc (.cells #[.int .i64 0, .int .i64 0] 28)
  have n5 := ((Mix.Ex.refl (w.alloc (.cells #[.int .i64 0, .int .i64 0] 28))).alloc (.cells #[.int .i64 0, .int .i64 0] 28)).obj (heap_alloc_new w (.cells #[.int .i64 0, .int .i64 0] 28))
  have n6 := heap_alloc_new (w.alloc (.cells #[.int .i64 0, .int .i64 0] 28)) (.cells #[.int .i64 0, .int .i64 0] 28)
  rw [World.size_alloc] at n6
  change Code.wp _ _ _ _ ((w.alloc (.cells #[.int .i64 0, .int .i64 0] 28)).alloc (.cells #[.int .i64 0, .int .i64 0] 28))
  generalize ((w.alloc (.cells #[.int .i64 0, .int .i64 0] 28)).alloc (.cells #[.int .i64 0, .int .i64 0] 28)) = w1 at hxa n5 n6 ⊢
  obtain ⟨B5, hB5⟩ : ∃ B5, w.heap.size = B5 := ⟨_, rfl⟩
  obtain ⟨B6, hB6⟩ : ∃ B6, w.heap.size + 1 = B6 := ⟨_, rfl⟩
  rw [hB6] at n6 ⊢
  rw [hB5] at n5 ⊢
  have hT := hxa.obj HT.out
  have t2 : (w1.drewN 1).cell? ⟨p, 2, none⟩ = some (.int .i64 r.x0) := by show w1.cell? _ = _; rw [cellOf hT]; rfl
  have t3 : (w1.drewN 1).cell? ⟨p, 3, none⟩ = some (.int .i64 r.y0) := by show w1.cell? _ = _; rw [cellOf hT]; rfl
  have t4 : (w1.drewN 1).cell? ⟨p, 4, none⟩ = some (.int .i64 r.x1) := by show w1.cell? _ = _; rw [cellOf hT]; rfl
  have t5 : (w1.drewN 1).cell? ⟨p, 5, none⟩ = some (.int .i64 r.y1) := by show w1.cell? _ = _; rw [cellOf hT]; rfl
  have HC := And.intro t2 (And.intro t3 (And.intro t4 t5))
  have HXA := Lib.hid (hxa.drewN 1)
  clear t2 t3 t4 t5 hxa
  refine wp_region_K (fun W => W.cell? ⟨p, 2, none⟩ = some (.int .i64 r.x0) ∧ W.cell? ⟨p, 3, none⟩ = some (.int .i64 r.y0) ∧ W.cell? ⟨p, 4, none⟩ = some (.int .i64 r.x1) ∧ W.cell? ⟨p, 5, none⟩ = some (.int .i64 r.y1)) 11 (by kernel_rfl) ?_
  change wpAnyK _ _ _ _ _ 12 (Array.replicate 12 false) _ _
  (refine wpAnyK_take (i := 0) (oi := ?_) (v := ?_) ?_ ?_ ?_ ?_ ?_ ?_ ?_ ?_ ?_; rotate_left 2; (focus (simp only [List.getElem?_toArray, List.getElem?_cons_zero, List.getElem?_cons_succ]; rfl)); (focus kernel_rfl); (focus kernel_rfl); (focus kernel_rfl); (focus kernel_rfl); (focus exact fun _ _ _ h => h); (focus (refine Or.inl ⟨by rfl, ?_⟩; intro W hW; (try dsimp only at hW); go_simp; try with_reducible rfl)); (focus exact HC); (try simp only [Act.put, List.setIfInBounds_toArray, List.set_cons_zero, List.set_cons_succ]))
  (refine wpAnyK_take (i := 1) (oi := ?_) (v := ?_) ?_ ?_ ?_ ?_ ?_ ?_ ?_ ?_ ?_; rotate_left 2; (focus (simp only [List.getElem?_toArray, List.getElem?_cons_zero, List.getElem?_cons_succ]; rfl)); (focus kernel_rfl); (focus kernel_rfl); (focus kernel_rfl); (focus kernel_rfl); (focus exact fun _ _ _ h => h); (focus (refine Or.inl ⟨by rfl, ?_⟩; intro W hW; (try dsimp only at hW); go_simp; try with_reducible rfl)); (focus exact HC); (try simp only [Act.put, List.setIfInBounds_toArray, List.set_cons_zero, List.set_cons_succ]))
  (refine wpAnyK_take (i := 2) (oi := ?_) (v := ?_) ?_ ?_ ?_ ?_ ?_ ?_ ?_ ?_ ?_; rotate_left 2; (focus (simp only [List.getElem?_toArray, List.getElem?_cons_zero, List.getElem?_cons_succ]; rfl)); (focus kernel_rfl); (focus kernel_rfl); (focus kernel_rfl); (focus kernel_rfl); (focus exact fun _ _ _ h => h); (focus (refine Or.inl ⟨by rfl, ?_⟩; intro W hW; (try dsimp only at hW); go_simp; try with_reducible rfl)); (focus exact HC); (try simp only [Act.put, List.setIfInBounds_toArray, List.set_cons_zero, List.set_cons_succ]))
  (refine wpAnyK_take (i := 3) (oi := ?_) (v := ?_) ?_ ?_ ?_ ?_ ?_ ?_ ?_ ?_ ?_; rotate_left 2; (focus (simp only [List.getElem?_toArray, List.getElem?_cons_zero, List.getElem?_cons_succ]; rfl)); (focus kernel_rfl); (focus kernel_rfl); (focus kernel_rfl); (focus kernel_rfl); (focus exact fun _ _ _ h => h); (focus (refine Or.inl ⟨by rfl, ?_⟩; intro W hW; (try dsimp only at hW); go_simp; try with_reducible rfl)); (focus exact HC); (try simp only [Act.put, List.setIfInBounds_toArray, List.set_cons_zero, List.set_cons_succ]))
  (refine wpAnyK_take (i := 4) (oi := ?_) (v := ?_) ?_ ?_ ?_ ?_ ?_ ?_ ?_ ?_ ?_; rotate_left 2; (focus (simp only [List.getElem?_toArray, List.getElem?_cons_zero, List.getElem?_cons_succ]; rfl)); (focus kernel_rfl); (focus kernel_rfl); (focus kernel_rfl); (focus kernel_rfl); (focus exact fun _ _ _ h => h); (focus (refine Or.inl ⟨by rfl, ?_⟩; intro W hW; (try dsimp only at hW); go_simp; try with_reducible rfl)); (focus exact HC); (try simp only [Act.put, List.setIfInBounds_toArray, List.set_cons_zero, List.set_cons_succ]))
  (refine wpAnyK_take (i := 5) (oi := ?_) (v := ?_) ?_ ?_ ?_ ?_ ?_ ?_ ?_ ?_ ?_; rotate_left 2; (focus (simp only [List.getElem?_toArray, List.getElem?_cons_zero, List.getElem?_cons_succ]; rfl)); (focus kernel_rfl); (focus kernel_rfl); (focus kernel_rfl); (focus kernel_rfl); (focus exact fun _ _ _ h => h); (focus (refine Or.inl ⟨by rfl, ?_⟩; intro W hW; (try dsimp only at hW); go_simp; try with_reducible rfl)); (focus exact HC); (try simp only [Act.put, List.setIfInBounds_toArray, List.set_cons_zero, List.set_cons_succ]))
  (refine wpAnyK_take (i := 6) (oi := ?_) (v := ?_) ?_ ?_ ?_ ?_ ?_ ?_ ?_ ?_ ?_; rotate_left 2; (focus (simp only [List.getElem?_toArray, List.getElem?_cons_zero, List.getElem?_cons_succ]; rfl)); (focus kernel_rfl); (focus kernel_rfl); (focus kernel_rfl); (focus kernel_rfl); (focus exact fun _ _ _ h => h); (focus (refine Or.inl ⟨by rfl, ?_⟩; intro W hW; (try dsimp only at hW); go_simp; try with_reducible rfl)); (focus exact HC); (try simp only [Act.put, List.setIfInBounds_toArray, List.set_cons_zero, List.set_cons_succ]))
  (refine wpAnyK_take (i := 7) (oi := ?_) (v := ?_) ?_ ?_ ?_ ?_ ?_ ?_ ?_ ?_ ?_; rotate_left 2; (focus (simp only [List.getElem?_toArray, List.getElem?_cons_zero, List.getElem?_cons_succ]; rfl)); (focus kernel_rfl); (focus kernel_rfl); (focus kernel_rfl); (focus kernel_rfl); (focus exact fun _ _ _ h => h); (focus (refine Or.inl ⟨by rfl, ?_⟩; intro W hW; (try dsimp only at hW); go_simp; try with_reducible rfl)); (focus exact HC); (try simp only [Act.put, List.setIfInBounds_toArray, List.set_cons_zero, List.set_cons_succ]))
  (refine wpAnyK_take (i := 8) (oi := ?_) (v := ?_) ?_ ?_ ?_ ?_ ?_ ?_ ?_ ?_ ?_; rotate_left 2; (focus (simp only [List.getElem?_toArray, List.getElem?_cons_zero, List.getElem?_cons_succ]; rfl)); (focus kernel_rfl); (focus kernel_rfl); (focus kernel_rfl); (focus kernel_rfl); (focus exact fun _ _ _ h => h); (focus (refine Or.inl ⟨by rfl, ?_⟩; intro W hW; (try dsimp only at hW); go_simp; try with_reducible rfl)); (focus exact HC); (try simp only [Act.put, List.setIfInBounds_toArray, List.set_cons_zero, List.set_cons_succ]))
  (refine wpAnyK_take (i := 9) (oi := ?_) (v := ?_) ?_ ?_ ?_ ?_ ?_ ?_ ?_ ?_ ?_; rotate_left 2; (focus (simp only [List.getElem?_toArray, List.getElem?_cons_zero, List.getElem?_cons_succ]; rfl)); (focus kernel_rfl); (focus kernel_rfl); (focus kernel_rfl); (focus kernel_rfl); (focus exact fun _ _ _ h => h); (focus (refine Or.inl ⟨by rfl, ?_⟩; intro W hW; (try dsimp only at hW); go_simp; try with_reducible rfl)); (focus exact HC); (try simp only [Act.put, List.setIfInBounds_toArray, List.set_cons_zero, List.set_cons_succ]))
  clear HC
  have n5 : (w1.drewN 1).heap[B5]? = _ := n5
  have n6 : (w1.drewN 1).heap[B6]? = _ := n6
  have hTt : (w1.drewN 1).heap[p]? = _ := hT
  clear hT
  generalize w1.drewN 1 = w2 at HXA n5 n6 hTt ⊢
  have s0 := cellOf n5 0
  have s1 := cellOf n5 1
  simp only [List.getElem?_toArray, List.getElem?_cons_zero, List.getElem?_cons_succ] at s0 s1
  have f0 := frzOf n5 0
  have f1 := frzOf n5 1
  (refine wpAnyK_one (i := 10) (o := ?_) ?_ ?_ ?_ (fun K hK => ?_); rotate_left 1; (focus kernel_rfl); (focus (simp only [List.getElem?_toArray, List.getElem?_cons_zero, List.getElem?_cons_succ]; rfl)); (focus rfl))
  go_simp
  have hb : B5 ≠ B6 := by omega
  have m5 := setCell_obj (setCell_obj n5 0 (.int .i64 r.x0)) 1 (.int .i64 r.y0)
  have m6 : ((w2.setCell ⟨B5, 0, none⟩ (.int .i64 r.x0)).setCell ⟨B5, 1, none⟩ (.int .i64 r.y0)).heap[B6]? = _ := ((setCell_ne 1 (Ne.symm hb) _ none).trans (setCell_ne 0 (Ne.symm hb) _ none)).trans n6
  have HX2 := Lib.hid ((HXA.out.setCell (p := ⟨B5, 0, none⟩) (by dsimp only; omega) (.int .i64 r.x0)).setCell (p := ⟨B5, 1, none⟩) (by dsimp only; omega) (.int .i64 r.y0))
  simp only [List.setIfInBounds_toArray, List.set_cons_zero, List.set_cons_succ] at m5
  have hpB : p ≠ B5 := by have := (Array.getElem?_eq_some_iff.1 HT.out).1; omega
  have hT3 : ((w2.setCell ⟨B5, 0, none⟩ (.int .i64 r.x0)).setCell ⟨B5, 1, none⟩ (.int .i64 r.y0)).heap[p]? = _ := ((setCell_ne 1 hpB _ none).trans (setCell_ne 0 hpB _ none)).trans hTt
  generalize ((w2.setCell ⟨B5, 0, none⟩ (.int .i64 r.x0)).setCell ⟨B5, 1, none⟩ (.int .i64 r.y0)) = w3 at m5 m6 hT3 HX2 hK ⊢
  refine hK _ _ (fun _ => ⟨by rw [cellOf hT3]; rfl, by rw [cellOf hT3]; rfl, by rw [cellOf hT3]; rfl, by rw [cellOf hT3]; rfl⟩) ?_
  clear hK K s0 s1 f0 f1 n5 n6 HXA
  have s0 := cellOf m6 0
  have s1 := cellOf m6 1
  simp only [List.getElem?_toArray, List.getElem?_cons_zero, List.getElem?_cons_succ] at s0 s1
  have f0 := frzOf m6 0
  have f1 := frzOf m6 1
  (refine wpAnyK_one (i := 11) (o := ?_) ?_ ?_ ?_ (fun K hK => ?_); rotate_left 1; (focus kernel_rfl); (focus (simp only [List.getElem?_toArray, List.getElem?_cons_zero, List.getElem?_cons_succ]; rfl)); (focus rfl))
  go_simp
  have p6 := setCell_obj (setCell_obj m6 0 (.int .i64 r.x1)) 1 (.int .i64 r.y1)
  have p5 : ((w3.setCell ⟨B6, 0, none⟩ (.int .i64 r.x1)).setCell ⟨B6, 1, none⟩ (.int .i64 r.y1)).heap[B5]? = _ := ((setCell_ne 1 hb _ none).trans (setCell_ne 0 hb _ none)).trans m5
  have HX3 := Lib.hid ((HX2.out.setCell (p := ⟨B6, 0, none⟩) (by dsimp only; omega) (.int .i64 r.x1)).setCell (p := ⟨B6, 1, none⟩) (by dsimp only; omega) (.int .i64 r.y1))
  simp only [List.setIfInBounds_toArray, List.set_cons_zero, List.set_cons_succ] at p6
  generalize ((w3.setCell ⟨B6, 0, none⟩ (.int .i64 r.x1)).setCell ⟨B6, 1, none⟩ (.int .i64 r.y1)) = w4 at p5 p6 HX3 hK ⊢
  refine hK _ _ (fun h => absurd h (by decide +kernel)) ?_
  clear hK K s0 s1 f0 f1 m5 m6 HX2
  refine wpAnyK_done (by kernel_rfl) ?_ _
  have a0 := cellOf p5 0
  have a1 := cellOf p5 1
  have a2 := cellOf p6 0
  have a3 := cellOf p6 1
  simp only [List.getElem?_toArray, List.getElem?_cons_zero, List.getElem?_cons_succ] at a0 a1 a2 a3
  clear p5 p6
  go_wp2_with fail
  refine bodyPost_ret (v := .tuple #[.agg #[.int .i64 r.x0, .int .i64 r.y0], .agg #[.int .i64 r.x1, .int .i64 r.y1]]) (by simp [results, Try.results39, go_sem, a0, a1, a2, a3]) rfl ⟨rfl, HX3.out⟩
set_option maxRecDepth 100000 in
theorem implBounds_c (w : World) (S : List Stp) (hS : ∀ st ∈ S, st.ok) (hm : S.length ≤ 900000) (b0 g cap n : Nat) (hn : S.length = n) (hr : w.Row b0 37 11 stepV (.slice (some ⟨g, 0, none⟩) n cap) S) :
    Calls Try.prog 20 #[.slice (some ⟨g, 0, none⟩) n cap] w fun e w' => ∃ r, r = (Bx.runT tre0 S).rect ∧ e = .returned (.agg #[.int .i64 r.x0, .int .i64 r.y0, .int .i64 r.x1, .int .i64 r.y1]) ∧ Mix.Ex w w' := by
  have hG := fun W (hx : Mix.Ex w W) => grown_c W S hS hm b0 g cap (by rw [hn]; exact hr.ex hx)
  rw [hn] at hG
  obtain ⟨r, hr⟩ : ∃ r, r = (Bx.runT tre0 S).rect := ⟨_, rfl⟩
  have HR := Lib.hid hr
  clear hr
  go_enter Try.func20, Try.ntmps20
  go_upto_region 1 with (fail)
  have hxa := (Mix.Ex.refl w).alloc (.cells #[.int .i64 0, .int .i64 0, .int .i64 0, .int .i64 0] 30)
  have n5 := heap_alloc_new w (.cells #[.int .i64 0, .int .i64 0, .int .i64 0, .int .i64 0] 30)
  change Code.wp _ _ _ _ (w.alloc (.cells #[.int .i64 0, .int .i64 0, .int .i64 0, .int .i64 0] 30))
  generalize (w.alloc (.cells #[.int .i64 0, .int .i64 0, .int .i64 0, .int .i64 0] 30)) = w1 at hxa n5 ⊢
  obtain ⟨B5, hB5⟩ : ∃ B5, w.heap.size = B5 := ⟨_, rfl⟩
  rw [hB5] at n5 ⊢
  go_wp2_with fail
  refine (hG _ hxa).mono ?_
  rintro e w2 ⟨tr, s, rfl, hM, -, -, hx2⟩
  clear hG
  go_wp2_with fail
  refine (treeBounds_c hM).mono ?_
  rintro e w3 ⟨rfl, hx3⟩
  rw [← HR.out]
  have n5 := (hx2.trans hx3).obj n5
  have hx := (hxa.trans hx2).trans hx3
  have hlt := (Array.getElem?_eq_some_iff.1 n5).1
  have s0 := cellOf n5 0
  have s1 := cellOf n5 1
  have s2 := cellOf n5 2
  have s3 := cellOf n5 3
  simp only [List.getElem?_toArray, List.getElem?_cons_zero, List.getElem?_cons_succ] at s0 s1 s2 s3
  have f0 := frzOf n5 0
  have f1 := frzOf n5 1
  have f2 := frzOf n5 2
  have f3 := frzOf n5 3
  have m := setCell_obj (setCell_obj (setCell_obj (setCell_obj n5 0 (.int .i64 r.x0)) 1 (.int .i64 r.y0)) 2 (.int .i64 r.x1)) 3 (.int .i64 r.y1)
  simp only [List.setIfInBounds_toArray, List.set_cons_zero, List.set_cons_succ] at m
  have m2 := (((Mix.Ex.refl _).alloc (.cells #[.int .i64 r.x0, .int .i64 r.y0] 28)).alloc (.cells #[.int .i64 r.x1, .int .i64 r.y1] 28)).obj m
  have hxf := ((((((hx.setCell (p := ⟨B5, 0, none⟩) (by dsimp only; omega) (.int .i64 r.x0)).setCell (p := ⟨B5, 1, none⟩) (by dsimp only; omega) (.int .i64 r.y0)).setCell (p := ⟨B5, 2, none⟩) (by dsimp only; omega) (.int .i64 r.x1)).setCell (p := ⟨B5, 3, none⟩) (by dsimp only; omega) (.int .i64 r.y1)).alloc (.cells #[.int .i64 r.x0, .int .i64 r.y0] 28)).alloc (.cells #[.int .i64 r.x1, .int .i64 r.y1] 28))
  have M2 := Lib.hid m2
  have HX := Lib.hid hxf
  clear hM hxa hx2 hx3 n5 m m2 hxf hx
  go_wp2_with fail
  have a0 := cellOf M2.out 0
  have a1 := cellOf M2.out 1
  have a2 := cellOf M2.out 2
  have a3 := cellOf M2.out 3
  simp only [List.getElem?_toArray, List.getElem?_cons_zero, List.getElem?_cons_succ] at a0 a1 a2 a3
  refine bodyPost_ret (v := .agg #[.int .i64 r.x0, .int .i64 r.y0, .int .i64 r.x1, .int .i64 r.y1]) (by simp [results, Try.results20, go_sem, a0, a1, a2, a3]) rfl ⟨r, HR.out, rfl, HX.out⟩
set_option maxRecDepth 100000 in
set_option maxHeartbeats 1600000 in
theorem exactBounds_walk (w : World) (v : Value) (zs : List Int) (h : Ints16At w v zs) :
    Calls Try.prog 7 #[v] w fun e w' => e = .returned (.bool true) ∧ Mix.Ex w w' := by
  have h' := h
  obtain ⟨⟨o, cap0, rfl, hcells⟩, hle, hcap, hwf⟩ := h
  clear hcells hwf hcap
  go_enter Try.func7, Try.ntmps7
  go_wp2_with fail
  · go_ret
    exact ⟨rfl, Mix.Ex.refl _⟩
  refine (steps_c w _ zs h').mono ?_
  rintro e w1 ⟨g, cap, rfl, hr, hx⟩
  have hl := stepsOf_len zs
  have hok := stepsOf_ok h'
  generalize stepsOf zs = S at hr hl hok ⊢
  obtain ⟨n, hn⟩ : ∃ n, S.length = n := ⟨_, rfl⟩
  rw [hn] at hr ⊢
  go_wp2_with fail
  refine (fair_c w1 0 _ (.slice none 0 0) [] (.nil itemV_len) g n cap S hr hn (by simp; omega)).mono ?_
  rintro e w2 ⟨b, rfl, hb, hx2⟩
  cases b
  · go_wp2_with fail
    go_ret
    exact ⟨rfl, hx.trans hx2⟩
  have hf := hb rfl
  have hp := grown_fair hok hf
  have hbd := bounds_eq (grown_ok hok) hp
  have hL := fun W (hx : Mix.Ex w1 W) => implBounds_c W S hok (by omega) _ g cap n hn (hr.ex hx)
  rw [hbd] at hL
  have hP := play_c w2 0 _ (.slice none 0 0) [] (.nil itemV_len) g n cap S (hr.ex hx2) hn (by simp; omega)
  have hml := play_len S []
  simp only [List.length_nil] at hml
  have HL := Lib.hid hL
  clear hb hL hf hp hbd
  generalize play [] S = M at hP hml HL
  go_wp2_with fail
  refine hP.mono ?_
  rintro e w3 ⟨v', rfl, hrow, hx3⟩
  obtain ⟨om, capm, rfl, hom⟩ := hrow.slice
  obtain ⟨m, hmm⟩ : ∃ m, M.length = m := ⟨_, rfl⟩
  rw [hmm] at hrow hom hml ⊢
  have HM := Lib.hid hmm
  have HROW := Lib.hid hrow
  have HX3 := Lib.hid ((hx.trans hx2).trans hx3)
  have HX12 := Lib.hid (hx2.trans hx3)
  clear hrow hmm hP hx2 hx3 hx hr
  go_upto_region 8 with (fail)
  have hxa := (Mix.Ex.refl w3).alloc (.cells #[.int .i64 0, .int .i64 0, .int .i64 0, .int .i64 0] 30)
  have n5 := heap_alloc_new w3 (.cells #[.int .i64 0, .int .i64 0, .int .i64 0, .int .i64 0] 30)
  change Code.wp _ _ _ _ (w3.alloc (.cells #[.int .i64 0, .int .i64 0, .int .i64 0, .int .i64 0] 30))
  generalize (w3.alloc (.cells #[.int .i64 0, .int .i64 0, .int .i64 0, .int .i64 0] 30)) = w4 at hxa n5 ⊢
  obtain ⟨B, hB⟩ : ∃ B, w3.heap.size = B := ⟨_, rfl⟩
  rw [hB] at n5 ⊢
  have HXA := Lib.hid hxa
  clear hxa
  go_wp2_with fail
  go_loopw [21] (fun i wr => ∃ jj : Nat, jj ≤ m ∧ i = .int .i64 jj ∧ wr.heap[B]? = some (.cells #[.int .i64 (around (M.take jj)).x0, .int .i64 (around (M.take jj)).y0, .int .i64 (around (M.take jj)).x1, .int .i64 (around (M.take jj)).y1] 30 (0, 0)) ∧ Mix.Ex w3 wr) (fun i _ => m - (intOf i).toNat)
  case atStart => exact ⟨0, by omega, rfl, n5, HXA.out⟩
  case round =>
    obtain ⟨jj, hj, rfl, hb, hx⟩ := hrel
    clear n5
    by_cases hlj : jj < m
    case neg =>
      have e : M.take jj = M := List.take_of_length_le (by have := HM.out; omega)
      rw [e] at hb
      have hjm : jj = m := by omega
      subst hjm
      obtain ⟨r, hr⟩ : ∃ r, around M = r := ⟨_, rfl⟩
      have hL := HL.out
      rw [hr] at hb hL
      have hlt := (Array.getElem?_eq_some_iff.1 hb).1
      have s0 := cellOf hb 0
      have s1 := cellOf hb 1
      have s2 := cellOf hb 2
      have s3 := cellOf hb 3
      simp only [List.getElem?_toArray, List.getElem?_cons_zero, List.getElem?_cons_succ] at s0 s1 s2 s3
      have hA : ∀ y, Calls Try.prog 20 #[.slice (some ⟨g, 0, none⟩) n cap] (wr.ext y) fun e w' => e = .returned (.agg #[.int .i64 r.x0, .int .i64 r.y0, .int .i64 r.x1, .int .i64 r.y1]) ∧ Mix.Ex (wr.ext y) w' := fun y =>
        (hL _ ((HX12.out.trans hx).ext y)).mono (by rintro e w' ⟨r', rfl, rfl, h⟩; exact ⟨rfl, h⟩)
      have hsm : same ⟨r.x0, r.y0, r.x1, r.y1⟩ ⟨r.x0, r.y0, r.x1, r.y1⟩ = true := by simp [same]
      have HX := Lib.hid hx
      clear hx hb hL
      go_upto_region 15 with (fail)
      (refine Mix.wp_region_ex (by kernel_rfl) (by kernel_rfl) ?_; (repeat (go_big_quiet_step ((go_at_call 20; exact Mix.calls_qx (hA _) (fun y => ⟨_, World.ext_ext _ _ _⟩))))); refine wpQuiet_nil ?_; intro nq)
      go_wp2_with fail
      go_ret
      exact ⟨rfl, (HX3.out.trans HX.out).ext _⟩
    obtain ⟨gm, rfl⟩ := hom (by omega)
    obtain ⟨x, hxj⟩ : ∃ x, M[jj]? = some x := ⟨M[jj]'(by have := HM.out; omega), List.getElem?_eq_getElem _⟩
    obtain ⟨l0, l1, l2, l3, l4⟩ := row_cells5 (HROW.out.ex hx) hxj
    have hsn : M.take (jj + 1) = M.take jj ++ [x] := takeN_snoc hxj
    have HSN := Lib.hid hsn
    have hsz := hx.below.size
    have hbl := (Array.getElem?_eq_some_iff.1 hb).1
    have hz0 : jj = 0 ↔ M.take jj = [] := by
      rw [List.take_eq_nil_iff]
      constructor
      · exact .inl
      · rintro (h | h)
        · exact h
        · subst h; have := HM.out; simp at this; omega
    have HZ0 := Lib.hid hz0
    clear hsn hxj hz0
    generalize M.take jj = K0 at hb HSN HZ0
    have hxa := hx.alloc (.cells (itemV x).toArray 35)
    have n6 := heap_alloc_new wr (.cells (itemV x).toArray 35)
    have hb6 := ((Mix.Ex.refl wr).alloc (.cells (itemV x).toArray 35)).obj hb
    go_upto_region 11 with (fail)
    change Code.wp _ _ _ _ (wr.alloc (.cells (itemV x).toArray 35))
    generalize hB7 : wr.heap.size = B7 at n6 hsz hbl ⊢
    generalize (wr.alloc (.cells (itemV x).toArray 35)) = w7 at hxa n6 hb6 ⊢
    clear l0 l1 l2 l3 l4 hb hx
    have l0 := cellOf n6 0
    have l1 := cellOf n6 1
    have l2 := cellOf n6 2
    have l3 := cellOf n6 3
    have s0 := cellOf hb6 0
    have s1 := cellOf hb6 1
    have s2 := cellOf hb6 2
    have s3 := cellOf hb6 3
    simp only [itemV, List.getElem?_toArray, List.getElem?_cons_zero, List.getElem?_cons_succ] at l0 l1 l2 l3 s0 s1 s2 s3
    have f0 := frzOf hb6 0
    have f1 := frzOf hb6 1
    have f2 := frzOf hb6 2
    have f3 := frzOf hb6 3
    have hB7' : B ≠ B7 := by omega
    have hl7 := (Array.getElem?_eq_some_iff.1 n6).1
    have HXA7 := Lib.hid hxa
    have HB6 := Lib.hid hb6
    have N6 := Lib.hid n6
    clear hxa n6 hb6
    have hsz3 := HX12.out.below.size
    by_cases hj0 : jj = 0
    · have hK0 := HZ0.out.1 hj0
      subst hK0
      have e0 : ((jj : Int) == 0) = true := by simp [hj0]
      have HJ := Lib.hid hj0
      clear hj0
      go_upto_region 13 with (fail)
      have m := setCell_obj (setCell_obj (setCell_obj (setCell_obj HB6.out 0 (.int .i64 x.1.x0)) 1 (.int .i64 x.1.y0)) 2 (.int .i64 x.1.x1)) 3 (.int .i64 x.1.y1)
      simp only [List.setIfInBounds_toArray, List.set_cons_zero, List.set_cons_succ] at m
      have n8 : ((((w7.setCell ⟨B, 0, none⟩ (.int .i64 x.1.x0)).setCell ⟨B, 1, none⟩ (.int .i64 x.1.y0)).setCell ⟨B, 2, none⟩ (.int .i64 x.1.x1)).setCell ⟨B, 3, none⟩ (.int .i64 x.1.y1)).heap[B7]? = _ :=
        ((((setCell_ne 3 (Ne.symm hB7') _ none).trans (setCell_ne 2 (Ne.symm hB7') _ none)).trans (setCell_ne 1 (Ne.symm hB7') _ none)).trans (setCell_ne 0 (Ne.symm hB7') _ none)).trans N6.out
      have HX8 := Lib.hid ((((HXA7.out.setCell (p := ⟨B, 0, none⟩) (by dsimp only; omega) (.int .i64 x.1.x0)).setCell (p := ⟨B, 1, none⟩) (by dsimp only; omega) (.int .i64 x.1.y0)).setCell (p := ⟨B, 2, none⟩) (by dsimp only; omega) (.int .i64 x.1.x1)).setCell (p := ⟨B, 3, none⟩) (by dsimp only; omega) (.int .i64 x.1.y1))
      generalize ((((w7.setCell ⟨B, 0, none⟩ (.int .i64 x.1.x0)).setCell ⟨B, 1, none⟩ (.int .i64 x.1.y0)).setCell ⟨B, 2, none⟩ (.int .i64 x.1.x1)).setCell ⟨B, 3, none⟩ (.int .i64 x.1.y1)) = w8 at m n8 HX8 ⊢
      clear l0 l1 l2 l3 s0 s1 s2 s3 f0 f1 f2 f3
      have hnx : around (M.take (jj + 1)) = x.1.expand x.1 := by rw [HSN.out, expand_self]; rfl
      have HNX := Lib.hid hnx
      clear hnx HSN HZ0
      have a0 := cellOf m 0
      have a1 := cellOf m 1
      have a2 := cellOf m 2
      have a3 := cellOf m 3
      have b0 := cellOf n8 0
      have b1 := cellOf n8 1
      have b2 := cellOf n8 2
      have b3 := cellOf n8 3
      simp only [itemV, List.getElem?_toArray, List.getElem?_cons_zero, List.getElem?_cons_succ] at a0 a1 a2 a3 b0 b1 b2 b3
      have M8 := Lib.hid m
      clear m n8
      go_wp2_with fail
      refine (specAround_c _ x.1 x.1).mono ?_
      rintro e w9 ⟨rfl, hx9⟩
      have m9 := hx9.obj M8.out
      have hx9 := HX8.out.trans hx9
      clear a0 a1 a2 a3 b0 b1 b2 b3
      have hl9 := (Array.getElem?_eq_some_iff.1 m9).1
      have a0 := cellOf m9 0
      have a1 := cellOf m9 1
      have a2 := cellOf m9 2
      have a3 := cellOf m9 3
      simp only [List.getElem?_toArray, List.getElem?_cons_zero, List.getElem?_cons_succ] at a0 a1 a2 a3
      have f0 := frzOf m9 0
      have f1 := frzOf m9 1
      have f2 := frzOf m9 2
      have f3 := frzOf m9 3
      have k := setCell_obj (setCell_obj (setCell_obj (setCell_obj m9 0 (.int .i64 (R.expand x.1 x.1).x0)) 1 (.int .i64 (R.expand x.1 x.1).y0)) 2 (.int .i64 (R.expand x.1 x.1).x1)) 3 (.int .i64 (R.expand x.1 x.1).y1)
      simp only [List.setIfInBounds_toArray, List.set_cons_zero, List.set_cons_succ] at k
      have hxk := (((hx9.setCell (p := ⟨B, 0, none⟩) (by dsimp only; omega) (.int .i64 (R.expand x.1 x.1).x0)).setCell (p := ⟨B, 1, none⟩) (by dsimp only; omega) (.int .i64 (R.expand x.1 x.1).y0)).setCell (p := ⟨B, 2, none⟩) (by dsimp only; omega) (.int .i64 (R.expand x.1 x.1).x1)).setCell (p := ⟨B, 3, none⟩) (by dsimp only; omega) (.int .i64 (R.expand x.1 x.1).y1)
      have KK := Lib.hid k
      have HXK := Lib.hid hxk
      clear k hxk m9 hx9
      go_wp2_with fail
      go_roundw
      case measure => simp [intOf]; omega
      case rel => exact ⟨jj + 1, by omega, by go_num, by rw [HNX.out]; exact KK.out, HXK.out⟩
    · have hnx : around (M.take (jj + 1)) = (around K0).expand x.1 := by
        rw [HSN.out, around_snoc, if_neg (fun e => hj0 (HZ0.out.2 e))]
      have e0 : ((jj : Int) == 0) = false := by simp; omega
      have HJ := Lib.hid hj0
      have HNX := Lib.hid hnx
      clear hj0 hnx HSN HZ0
      have m := HB6.out
      have n8 := N6.out
      have HX8 := HXA7
      clear HB6 N6 HXA7 l0 l1 l2 l3 s0 s1 s2 s3 f0 f1 f2 f3
      generalize around K0 = r at m HNX
      go_upto_region 13 with (fail)
      have a0 := cellOf m 0
      have a1 := cellOf m 1
      have a2 := cellOf m 2
      have a3 := cellOf m 3
      have b0 := cellOf n8 0
      have b1 := cellOf n8 1
      have b2 := cellOf n8 2
      have b3 := cellOf n8 3
      simp only [itemV, List.getElem?_toArray, List.getElem?_cons_zero, List.getElem?_cons_succ] at a0 a1 a2 a3 b0 b1 b2 b3
      have M8 := Lib.hid m
      clear m n8
      go_wp2_with fail
      refine (specAround_c _ r x.1).mono ?_
      rintro e w9 ⟨rfl, hx9⟩
      have m9 := hx9.obj M8.out
      have hx9 := HX8.out.trans hx9
      clear a0 a1 a2 a3 b0 b1 b2 b3
      have hl9 := (Array.getElem?_eq_some_iff.1 m9).1
      have a0 := cellOf m9 0
      have a1 := cellOf m9 1
      have a2 := cellOf m9 2
      have a3 := cellOf m9 3
      simp only [List.getElem?_toArray, List.getElem?_cons_zero, List.getElem?_cons_succ] at a0 a1 a2 a3
      have f0 := frzOf m9 0
      have f1 := frzOf m9 1
      have f2 := frzOf m9 2
      have f3 := frzOf m9 3
      have k := setCell_obj (setCell_obj (setCell_obj (setCell_obj m9 0 (.int .i64 (R.expand r x.1).x0)) 1 (.int .i64 (R.expand r x.1).y0)) 2 (.int .i64 (R.expand r x.1).x1)) 3 (.int .i64 (R.expand r x.1).y1)
      simp only [List.setIfInBounds_toArray, List.set_cons_zero, List.set_cons_succ] at k
      have hxk := (((hx9.setCell (p := ⟨B, 0, none⟩) (by dsimp only; omega) (.int .i64 (R.expand r x.1).x0)).setCell (p := ⟨B, 1, none⟩) (by dsimp only; omega) (.int .i64 (R.expand r x.1).y0)).setCell (p := ⟨B, 2, none⟩) (by dsimp only; omega) (.int .i64 (R.expand r x.1).x1)).setCell (p := ⟨B, 3, none⟩) (by dsimp only; omega) (.int .i64 (R.expand r x.1).y1)
      have KK := Lib.hid k
      have HXK := Lib.hid hxk
      clear k hxk m9 hx9
      go_wp2_with fail
      go_roundw
      case measure => simp [intOf]; omega
      case rel => exact ⟨jj + 1, by omega, by go_num, by rw [HNX.out]; exact KK.out, HXK.out⟩
end Go.Proofs.Ytboeldlilkeihaa
