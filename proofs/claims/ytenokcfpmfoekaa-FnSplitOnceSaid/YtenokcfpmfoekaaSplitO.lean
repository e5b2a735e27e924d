/- The walk of the law on splitting. -/
import Derived.Test.YtenokcfpmfoekaaSortO
import Derived.Test.YtenokcfpmfoekaaSplitN
set_option linter.unusedSimpArgs false
set_option linter.unusedVariables false
namespace Go
namespace Bx
theorem bndF_small {rc : Nat → R} {n : Nat} (h : ∀ i, i ≤ n → (rc i).small) : (bndF rc n).small :=
  (bndF_bd rc n).small fun s hs => by obtain ⟨i, hi, rfl⟩ := mem_lst.1 hs; exact h i (by omega)
/-- The numbers of the boxes on both sides of a split. -/
theorem split_facts {rs : List R} {n : Nat} {r : R} {a b : Nat} {A B : Ent} {ga gb : Nat → Int} (hn : 2 ≤ n)
    (h : splitF (.int .i64 0) r n (fun i => (if i < n then rs.getD i R0 else R0, if i < n then Value.int .i64 i else .int .i64 0)) = (a, A, b, B)) (hA : fE A = fun k => .int .i64 (ga k)) (hB : fE B = fun k => .int .i64 (gb k)) :
    a + b = n ∧ (4 ≤ n → 2 ≤ a ∧ 2 ≤ b) ∧ (∀ x ∈ [(List.range a).map ga, (List.range b).map gb].flatten, 0 ≤ x ∧ x < n) ∧ [(List.range a).map ga, (List.range b).map gb].flatten.Nodup ∧ [(List.range a).map ga, (List.range b).map gb].flatten.length = n := by
  obtain ⟨h1, h2, h3⟩ := splitF_spec _ r n _ hn a A b B h
  have e : ∀ (c : Nat) (C : Ent) (g : Nat → Int), (fE C = fun k => .int .i64 (g k)) → (lst c C).map (fun e => RowKit.intOf e.2) = (List.range c).map g := fun c C g hC => by
    unfold lst
    rw [List.map_map]
    refine List.map_congr_left fun i _ => ?_
    have := congrFun hC i
    unfold fE at this
    show RowKit.intOf (C i).2 = g i
    rw [this]; rfl
  have h4 := h3.map (fun e => RowKit.intOf e.2)
  rw [List.map_append, e a A ga hA, e b B gb hB] at h4
  have h5 : (lst n (fun i => (if i < n then rs.getD i R0 else R0, if i < n then Value.int .i64 i else .int .i64 0))).map (fun e => RowKit.intOf e.2) = (List.range n).map (fun i : Nat => (i : Int)) := by
    unfold lst
    rw [List.map_map]
    refine List.map_congr_left fun i hi => ?_
    show RowKit.intOf (if i < n then Value.int .i64 i else .int .i64 0) = i
    rw [if_pos (List.mem_range.1 hi)]; rfl
  rw [h5] at h4
  have h6 : [(List.range a).map ga, (List.range b).map gb].flatten = (List.range a).map ga ++ (List.range b).map gb := by simp
  rw [h6]
  refine ⟨h1, h2, fun x hx => ?_, ?_, by rw [h4.length_eq]; simp⟩
  · obtain ⟨i, hi, rfl⟩ := List.mem_map.1 (h4.mem_iff.1 hx)
    have := List.mem_range.1 hi
    omega
  · rw [h4.nodup_iff]
    unfold List.Nodup
    rw [List.pairwise_map]
    exact List.Pairwise.imp (fun {a b} hab e => hab (by omega)) List.nodup_range
end Bx
end Go
namespace Go.Proofs.Ytenokcfpmfoekaa
open Go.RowKit Go.Bx
theorem news_list {w : World} {q n : Nat} {E : Ent} {g : Nat → Int} (hL : ListAt w q (elT true) (fE E)) (hg : fE E = fun k => .int .i64 (g k)) (hn : n ≤ 64) :
    ∀ j u, (((List.range n).map g).flatMap intV)[j]? = some u → w.cell? ((⟨q, 0, none⟩ : Addr).add j) = some u := by
  intro j u hju
  rw [flat_int] at hju
  split at hju
  · rename_i hj
    obtain rfl := Option.some.inj hju
    have hadd : (⟨q, 0, none⟩ : Addr).add j = ⟨q, j, none⟩ := by unfold Addr.add; split <;> simp_all
    rw [hadd]
    have hh := hL
    unfold ListAt at hh
    rw [cell_of_row w q j _ _ _ hh, lsCells_get _ _ (by omega), hg]
  · cases hju
set_option maxRecDepth 100000 in
set_option maxHeartbeats 1600000 in
theorem ZZSplit_c (w : World) (g0 cap0 b0 : Nat) (rs : List R) (hr : w.Row b0 47 4 boxV (.slice (some ⟨g0, 0, none⟩) rs.length cap0) rs) (hl : rs.length ≤ 64) (h2 : 2 ≤ rs.length) (hsm : ∀ r ∈ rs, r.small) :
    Calls Try.prog 46 #[.slice (some ⟨g0, 0, none⟩) rs.length cap0] w fun e w' => ∃ v1 v2 r a A b B ga gb, e = .returned (.tuple #[v1, v2]) ∧
      splitF (.int .i64 0) r rs.length (leafE rs rs.length) = (a, A, b, B) ∧ fE A = (fun k => .int .i64 (ga k)) ∧ fE B = (fun k => .int .i64 (gb k)) ∧
      w'.Row w.heap.size 3 1 intV v1 ((List.range a).map ga) ∧ w'.Row w.heap.size 3 1 intV v2 ((List.range b).map gb) ∧ Mix.Ex w w' := by
  obtain ⟨i0, hi0, hz0, hz1, hz2⟩ := info_parts info_int
  obtain ⟨nb, hn⟩ : ∃ nb, rs.length = nb := ⟨_, rfl⟩
  have hZ := fun w t g0 cap0 b0 ht hr => zzLeaf_c w t g0 cap0 b0 rs ht hr hl
  have hsm2 : ∀ i, i < nb → (leafE rs nb i).1.small := fun i hi => by
    show (leafRc rs nb i).small
    unfold leafRc
    rw [if_pos hi, List.getD_eq_getElem?_getD, List.getElem?_eq_getElem (by omega)]
    exact hsm _ (List.getElem_mem _)
  rw [hn] at hr hl h2 hZ ⊢
  clear hn
  go_enter Try.func46, Try.ntmps46
  go_wp2_with fail
  refine (hZ (w.alloc (.cells tr0 74)) w.heap.size g0 cap0 b0 (by simp; rfl) (hr.ex ((Mix.Ex.refl _).alloc _))).mono ?_
  rintro e w1 ⟨p, q, rfl, hN, hL, hpq, hp, hq, hx⟩
  have hx0 := (Mix.Ex.refl w).alloc (.cells tr0 74)
  have ht0 : (w.alloc (.cells tr0 74)).cell? ⟨w.heap.size, 0, none⟩ = some (.int .u64 0) := by simp; rfl
  have ht7 : (w.alloc (.cells tr0 74)).cell? ⟨w.heap.size, 7, none⟩ = some (.int .i64 0) := by simp; rfl
  have ht0 := hx.cell ht0
  have ht7 := hx.cell ht7
  have hx := hx0.trans hx
  simp only [World.size_alloc] at hp hq
  clear hZ hx0
  go_wp2_with fail
  refine (noderect_c _ p _ nb hN rfl hl).mono ?_
  rintro e w2 ⟨⟨r, hrr, rfl⟩, hx2⟩
  have hN := hN.ex hx2
  have hL := hL.ex hx2
  have ht0 := hx2.cell ht0
  have ht7 := hx2.cell ht7
  have hx := hx.trans hx2
  have hrs : r.small := by rw [hrr]; exact bndF_small fun i hi => hsm2 i (by omega)
  have HR := Lib.hid hrr
  clear hrr hx2
  go_wp2_with fail
  refine (split_c _ w.heap.size p q 0 0 true nb (leafE rs nb) r ht0 ht7 hN hL (Fit_leaf rs nb) hpq (by omega) (by omega) h2 hl hrs hsm2).mono ?_
  rintro e w3 ⟨p', q', rfl, hp', hq', hpq', n1, l1, n2, l2, f1, f2, hch⟩
  have hx3 : Mix.Ex w w3 := ((Chg.ex hx).trans' hch (fun i hi h => by rcases h with h | h <;> omega)).toEx (S := fun _ => False) (fun _ _ h => h)
  obtain ⟨⟨a, A, b, B⟩, hs⟩ : ∃ y, splitF (zE true) r nb (leafE rs nb) = y := ⟨_, rfl⟩
  rw [hs] at n1 l1 n2 l2 f1 f2
  dsimp only at n1 l1 n2 l2 f1 f2
  obtain ⟨h1, _, _⟩ := splitF_spec (zE true) r nb (leafE rs nb) h2 a A b B hs
  obtain ⟨ga, hga⟩ := f1
  obtain ⟨gb, hgb⟩ := f2
  have HSS := Lib.hid hs
  clear hch hs hN hL hx hr
  have c1 := n1.cell2
  have c2 := n2.cell2
  dsimp only at c1 c2
  have hpl := n1.lt
  have hpl' := n2.lt
  have a64 : (a : Int) ≤ 64 := by omega
  have b64 : (b : Int) ≤ 64 := by omega
  have hsz := hx3.below.size
  have hxx := Mix.Ex.refl w3
  go_wp2_with fail
  (refine Mix.wp_region_own w3 2 [5, 2, 5, 2] (by kernel_rfl) (by kernel_rfl) (by assumption) ?_; simp only [List.take_succ_cons, List.take_zero, List.drop_succ_cons, List.drop_zero])
  (repeat (go_big_quiet_step (fail))); refine wpQuiet_nil ?_
  (refine Mix.wpTl_dr (fun n K hK => ?_); go_simp)
  refine (items_c _ p _ (n1.drewN _) rfl).mono ?_
  rintro e w4 ⟨rfl, rfl⟩
  have hx4 := hxx.drewN n
  refine ⟨_, rfl, _, Mix.Dr.refl _, hx4, hK _ _ hx4 ?_⟩
  (clear hK K; simp only [Act.put, List.setIfInBounds_toArray, List.set_cons_zero, List.set_cons_succ, List.take_succ_cons, List.take_zero, List.drop_succ_cons, List.drop_zero])
  (repeat (go_big_quiet_step (fail))); refine wpQuiet_nil ?_
  refine Mix.wpTl_append_list (.tmp 16) (.tmp 23) 40 rfl w.heap.size 3 i0 _ 1 8 Try.underlying40 hi0 hz0 hz1 hz2 rfl (by omega) intV (.slice none 0 0) [] ((List.range a).map ga) rfl (World.Row.nil intV_len) ⟨q, 0, none⟩ a 64 (by simp) rfl (news_list (l1.drewN _) hga (by omega)) (fun y _ => intV_one y) (by simp [maxLen]; omega) (by simp; omega) (by have := hx4.below.size; exact Nat.le_trans hsz this) ?_
  intro v1 w5 hr5 hgr5 _
  have hx5 : Mix.Ex w3 w5 := hx4.grown hgr5 (fun k hk => by simp [Value.ownBlock] at hk)
  refine ⟨hx5, ?_⟩
  (simp only [Act.put, List.setIfInBounds_toArray, List.set_cons_zero, List.set_cons_succ, List.take_succ_cons, List.take_zero, List.drop_succ_cons, List.drop_zero])
  (repeat (go_big_quiet_step (fail))); refine wpQuiet_nil ?_
  (refine Mix.wpTl_dr (fun n K hK => ?_); go_simp)
  refine (items_c _ p' _ ((n2.ex hx5).drewN _) rfl).mono ?_
  rintro e w6 ⟨rfl, rfl⟩
  have hx6 := hx5.drewN n
  refine ⟨_, rfl, _, Mix.Dr.refl _, hx6, hK _ _ hx6 ?_⟩
  (clear hK K; simp only [Act.put, List.setIfInBounds_toArray, List.set_cons_zero, List.set_cons_succ, List.take_succ_cons, List.take_zero, List.drop_succ_cons, List.drop_zero])
  (repeat (go_big_quiet_step (fail))); refine wpQuiet_nil ?_
  refine Mix.wpTl_append_list (.tmp 25) (.tmp 32) 40 rfl w.heap.size 3 i0 _ 1 8 Try.underlying40 hi0 hz0 hz1 hz2 rfl (by omega) intV (.slice none 0 0) [] ((List.range b).map gb) rfl (World.Row.nil intV_len) ⟨q', 0, none⟩ b 64 (by simp) rfl (news_list ((l2.ex hx5).drewN _) hgb (by omega)) (fun y _ => intV_one y) (by simp [maxLen]; omega) (by simp; omega) (by have := hx6.below.size; exact Nat.le_trans hsz this) ?_
  intro v2 w7 hr7 hgr7 _
  have hx7 : Mix.Ex w3 w7 := hx6.grown hgr7 (fun k hk => by simp [Value.ownBlock] at hk)
  refine ⟨hx7, ?_⟩
  (simp only [Act.put, List.setIfInBounds_toArray, List.set_cons_zero, List.set_cons_succ, List.take_succ_cons, List.take_zero, List.drop_succ_cons, List.drop_zero])
  (repeat (go_big_quiet_step (fail)))
  (refine wpQuiet_nil ?_; intro nq)
  have h57 : Mix.Ex w5 w7 := ((Mix.Ex.refl w5).drewN n).grown hgr7 (fun k hk => by simp [Value.ownBlock] at hk)
  rw [List.nil_append] at hr5 hr7
  have hr5 := hr5.ex h57
  go_wp2_with fail
  go_ret2
  exact ⟨v1, v2, r, a, A, b, B, ga, gb, rfl, HSS.out, hga, hgb, hr5.ex ((Mix.Ex.refl _).drewN _), hr7.ex ((Mix.Ex.refl _).drewN _), (hx3.trans hx7).drewN _⟩

set_option maxRecDepth 100000 in
set_option maxHeartbeats 800000 in
theorem implSplit_c (w : World) (g0 cap0 b0 : Nat) (rs : List R) (hr : w.Row b0 25 4 boxV (.slice (some ⟨g0, 0, none⟩) rs.length cap0) rs) (hl : rs.length ≤ 64) (h2 : 2 ≤ rs.length) (hsm : ∀ r ∈ rs, r.small) :
    Calls Try.prog 32 #[.slice (some ⟨g0, 0, none⟩) rs.length cap0] w fun e w' => ∃ v1 v2 r a A b B ga gb, e = .returned (.tuple #[v1, v2]) ∧
      splitF (.int .i64 0) r rs.length (leafE rs rs.length) = (a, A, b, B) ∧ fE A = (fun k => .int .i64 (ga k)) ∧ fE B = (fun k => .int .i64 (gb k)) ∧
      w'.Row w.heap.size 3 1 intV v1 ((List.range a).map ga) ∧ w'.Row w.heap.size 3 1 intV v2 ((List.range b).map gb) ∧ Mix.Ex w w' := by
  go_enter Try.func32, Try.ntmps32
  go_wp2_with fail
  refine (implBoxes_c _ g0 cap0 b0 rs hr hl).mono ?_
  rintro e w1 ⟨g1, cap1, rfl, hr1, hx⟩
  go_wp2_with fail
  refine (ZZSplit_c _ g1 cap1 _ rs hr1 hl h2 hsm).mono ?_
  rintro e w2 ⟨v1, v2, r, a, A, b, B, ga, gb, rfl, hs, hA, hB, hr1, hr2, hx2⟩
  have HA := Lib.hid hA
  have HB := Lib.hid hB
  have HSS := Lib.hid hs
  clear hA hB hs
  go_wp2_with fail
  go_ret2
  exact ⟨v1, v2, r, a, A, b, B, ga, gb, rfl, HSS.out, HA.out, HB.out, hr1.lower hx.below.size, hr2.lower hx.below.size, hx.trans hx2⟩

theorem row_cases {w : World} {base : Nat} {n : Nat} {v : Value} {g : Nat → Int} (h : w.Row base 3 1 intV v ((List.range n).map g)) : ∃ o c, v = .slice o n c := by
  rcases h.form with ⟨rfl, hz⟩ | ⟨g', c, rfl, _⟩
  · have : n = 0 := by have := congrArg List.length hz; simpa using this
    subst this
    exact ⟨none, 0, rfl⟩
  · exact ⟨some ⟨g', 0, none⟩, c, by simp⟩
set_option maxRecDepth 100000 in
set_option maxHeartbeats 3200000 in
theorem splitOnce_walk (w : World) (v : Value) (zs : List Int) (h : Ints16At w v zs) :
    Calls Try.prog 12 #[v] w fun e w' => e = .returned (.bool true) ∧ Mix.Ex w w' := by
  have h' := h
  obtain ⟨⟨o, cap0, rfl, hcells⟩, hle, hwf⟩ := h
  clear hcells hwf
  go_enter Try.func12, Try.ntmps12
  go_wp2_with fail
  · go_ret
    exact ⟨rfl, Mix.Ex.refl _⟩
  refine (specBoxes_c w _ zs h').mono ?_
  rintro e w1 ⟨gs, cap, rfl, hr, hx⟩
  have hl := boxesOf_le zs
  have hsm := small_boxes h'
  generalize boxesOf zs = rs at hr hl hsm ⊢
  obtain ⟨n, hn⟩ : ∃ n, rs.length = n := ⟨_, rfl⟩
  have HS := fun h2 => implSplit_c w1 gs cap _ rs hr hl h2 hsm
  rw [hn] at hr hl HS ⊢
  clear hn
  by_cases h2 : n < 2
  · go_wp2_with fail
    go_ret
    exact ⟨rfl, hx⟩
  go_wp2_with fail
  refine ((HS (by omega)).mono ?_ : Calls _ _ _ w1 _)
  rintro e w2 ⟨v1, v2, r, a, A, b, B, ga, gb, rfl, hs, hA, hB, hr1, hr2, hx2⟩
  obtain ⟨s1, s2, s3, s4, s5⟩ := split_facts (by omega) hs hA hB
  obtain ⟨u1, c1, rfl⟩ := row_cases hr1
  obtain ⟨u2, c2, rfl⟩ := row_cases hr2
  have hx := hx.trans hx2
  clear HS hs hA hB hx2 hr
  go_wp2_with fail
  have hal : (w2.alloc (.cells #[.slice u1 a c1, .slice u2 b c2] 40)).heap[w2.heap.size]? = some (.cells #[.slice u1 a c1, .slice u2 b c2] 40 (0, 0)) := heap_alloc_new w2 _
  have hxa := (Mix.Ex.refl w2).alloc (.cells #[.slice u1 a c1, .slice u2 b c2] 40)
  refine (once_c (w2.alloc (.cells #[.slice u1 a c1, .slice u2 b c2] 40)) n w2.heap.size 2 w1.heap.size 2 [(List.range a).map ga, (List.range b).map gb] (by simp) (fun j L hj => ?_) hl s3 s4 s5 rfl (by omega)).mono ?_
  · match j, hj with
    | 0, hj =>
      simp only [List.getElem?_cons_zero, Option.some.injEq] at hj
      subst hj
      exact ⟨_, by rw [cell_of_row _ _ 0 _ _ _ hal]; rfl, hr1.ex hxa⟩
    | 1, hj =>
      simp only [List.getElem?_cons_succ, List.getElem?_cons_zero, Option.some.injEq] at hj
      subst hj
      exact ⟨_, by rw [cell_of_row _ _ 1 _ _ _ hal]; rfl, hr2.ex hxa⟩
    | j + 2, hj => simp at hj
  rintro e w3 ⟨rfl, hx3⟩
  have hx := (hx.trans hxa).trans hx3
  clear hal hxa hx3 s3 s4 s5
  by_cases h4 : n < 4
  · have hd : decide ((n : Int) < 4) = true := by simp; omega
    go_wp2_with fail
    go_ret
    exact ⟨rfl, hx⟩
  · obtain ⟨p1, p2⟩ := s2 (by omega)
    have hd : decide ((n : Int) < 4) = false := by simp; omega
    have hd1 : decide ((2 : Int) ≤ a) = true := by simp; omega
    have hd2 : decide ((2 : Int) ≤ b) = true := by simp; omega
    go_wp2_with fail
    go_ret
    exact ⟨rfl, hx⟩
end Go.Proofs.Ytenokcfpmfoekaa
