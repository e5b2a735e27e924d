/- The walk of the law on sorting, way by way. -/
import Derived.Test.YtenokcfpmfoekaaSortO
set_option linter.unusedSimpArgs false
set_option linter.unusedVariables false
namespace Go.Proofs.Ytenokcfpmfoekaa
open Go.RowKit Go.Bx
set_option maxRecDepth 100000 in
set_option maxHeartbeats 3200000 in
theorem sort_walk_000 (w : World) (v : Value) (zs : List Int) (h : Ints16At w v zs) :
    Calls Try.prog 11 #[v, .bool false, .bool false, .bool false] w fun e w' => e = .returned (.bool true) ∧ Mix.Ex w w' := by
  have h' := h
  obtain ⟨⟨o, cap0, rfl, hcells⟩, hle, hwf⟩ := h
  clear hcells hwf
  go_enter Try.func11, Try.ntmps11
  go_wp2_with fail
  · go_ret
    exact ⟨rfl, Mix.Ex.refl _⟩
  refine (specBoxes_c w _ zs h').mono ?_
  rintro e w1 ⟨gb, cap, rfl, hr, hx⟩
  have hl := boxesOf_le zs
  generalize boxesOf zs = rs at hr hl ⊢
  obtain ⟨n, hn⟩ : ∃ n, rs.length = n := ⟨_, rfl⟩
  have HN := Lib.hid hn
  have HS := implSort_c w1 gb cap _ rs 0 false false (by omega) hr hl
  rw [hn] at hr hl HS ⊢
  clear hn
  go_wp2_with fail
  refine (HS.mono ?_ : Calls _ _ _ w1 _)
  rintro e w2 ⟨vo, g, rfl, hg, hro, hx2⟩
  have hr := hr.ex hx2
  have hx := hx.trans hx2
  obtain ⟨σ, f1, f2, f3⟩ := sort_facts HN.out hg
  obtain ⟨o1, o2, o3⟩ := once_facts f1 f2
  have F1 := Lib.hid f1
  have F3 := Lib.hid f3
  clear HS hg f1 f2 f3 hx2
  have hlenL : ((List.range n).map g).length = n := by simp
  rcases hro.form with ⟨rfl, hz⟩ | ⟨go, co, rfl, hg1, hg2, hg3, hg4⟩
  · go_wp2_with fail
    have hal : (w2.alloc (.cells #[(.slice none 0 0)] 40)).heap[w2.heap.size]? = some (.cells #[(.slice none 0 0)] 40 (0, 0)) := heap_alloc_new w2 _
    have hxa := (Mix.Ex.refl w2).alloc (.cells #[(.slice none 0 0)] 40)
    refine (once_c (w2.alloc (.cells #[(.slice none 0 0)] 40)) n w2.heap.size 1 w1.heap.size 1 [(List.range n).map g] (by simp) (fun j L hj => ?_) hl o1 o2 o3 rfl (by omega)).mono ?_
    · have : j = 0 := by
        rcases j with _ | j
        · rfl
        · simp at hj
      subst this
      simp only [List.getElem?_cons_zero, Option.some.injEq] at hj
      subst hj
      exact ⟨.slice none 0 0, by rw [cell_of_row _ _ 0 _ _ _ hal]; rfl, hro.ex hxa⟩
    rintro e w3 ⟨rfl, hx3⟩
    have hx3 := hxa.trans hx3
    have hr := hr.ex hx3
    have hro := hro.ex hx3
    have hx := hx.trans hx3
    clear hal hxa o1 o2 o3
    go_wp2_with fail
    go_loopw [12] (fun i wr => i = .int .i64 1 ∧ wr = w3) (fun i _ => 0)
    case atStart => exact ⟨rfl, rfl⟩
    case round =>
      obtain ⟨rfl, rfl⟩ := hrel
      go_wp2_with fail
      go_ret
      exact ⟨rfl, hx⟩
  rw [hlenL] at hro hg3
  clear hlenL
  go_wp2_with fail
  have hal : (w2.alloc (.cells #[.slice (some ⟨go, 0, none⟩) n co] 40)).heap[w2.heap.size]? = some (.cells #[.slice (some ⟨go, 0, none⟩) n co] 40 (0, 0)) := heap_alloc_new w2 _
  have hxa := (Mix.Ex.refl w2).alloc (.cells #[.slice (some ⟨go, 0, none⟩) n co] 40)
  refine (once_c (w2.alloc (.cells #[.slice (some ⟨go, 0, none⟩) n co] 40)) n w2.heap.size 1 w1.heap.size 1 [(List.range n).map g] (by simp) (fun j L hj => ?_) hl o1 o2 o3 rfl (by omega)).mono ?_
  · have : j = 0 := by
      rcases j with _ | j
      · rfl
      · simp at hj
    subst this
    simp only [List.getElem?_cons_zero, Option.some.injEq] at hj
    subst hj
    exact ⟨_, by rw [cell_of_row _ _ 0 _ _ _ hal]; rfl, hro.ex hxa⟩
  rintro e w3 ⟨rfl, hx3⟩
  have hx3 := hxa.trans hx3
  have hr := hr.ex hx3
  have hro := hro.ex hx3
  have hx := hx.trans hx3
  clear hal hxa o1 o2 o3
  go_wp2_with fail
  go_loopw [12] (fun i wr => ∃ k : Nat, k + 1 ≤ max n 1 ∧ i = .int .i64 ((k + 1 : Nat) : Int) ∧ Mix.Dr w3 wr) (fun i _ => n - (intOf i).toNat)
  case atStart => exact ⟨0, by omega, rfl, Mix.Dr.refl _⟩
  case round =>
    obtain ⟨k, hk, rfl, hd⟩ := hrel
    obtain ⟨m, hm⟩ : ∃ m, k + 1 = m := ⟨_, rfl⟩
    have HM := Lib.hid hm
    have hmi : (m : Int) - 1 = k := by omega
    rw [hm] at hk ⊢
    clear hm
    have hxd := Mix.Ex.of_dr hd
    by_cases hlt : m < n
    case neg =>
      go_wp2_with fail
      go_ret
      exact ⟨rfl, hx.trans hxd⟩
    have hkn : k < n := by have := HM.out; omega
    obtain ⟨e1, q1⟩ := F1.out k hkn
    obtain ⟨e2, q2⟩ := F1.out m hlt
    have c1 : wr.cell? ⟨go, k, none⟩ = some (.int .i64 (σ k)) := by
      have := (hro.ex hxd).cell (i := k) (j := 0) (x := g k) (by simp [hkn]) (u := .int .i64 (g k)) rfl
      rw [e1] at this
      simpa using this
    have c2 : wr.cell? ⟨go, m, none⟩ = some (.int .i64 (σ m)) := by
      have := (hro.ex hxd).cell (i := m) (j := 0) (x := g m) (by simp [hlt]) (u := .int .i64 (g m)) rfl
      rw [e2] at this
      simpa using this
    obtain ⟨r, hrk⟩ : ∃ r, rs[σ k]? = some r := ⟨rs[σ k]'(by have := HN.out; omega), List.getElem?_eq_getElem _⟩
    obtain ⟨s, hsk⟩ : ∃ s, rs[σ m]? = some s := ⟨rs[σ m]'(by have := HN.out; omega), List.getElem?_eq_getElem _⟩
    obtain ⟨l0, l1, l2, l3⟩ := row_cells (hr.ex hxd) hrk
    obtain ⟨m0, m1, m2, m3⟩ := row_cells (hr.ex hxd) hsk
    have hcmp : r.x0 ≤ s.x0 := by
      have h1 := F3.out k (by have := HM.out; omega) r s hrk (by rw [HM.out]; exact hsk)
      exact h1.1 (by first | rfl | trivial)
    generalize σ k = i1 at *
    generalize σ m = i2 at *
    have HE1 := Lib.hid e1
    have HE2 := Lib.hid e2
    clear e1 e2 hrk hsk
    go_wp2_with fail
    (refine Mix.wp_region_dr (by kernel_rfl) (by kernel_rfl) ?_; (repeat (go_big_quiet_step (fail))); refine wpQuiet_nil ?_; intro nq)
    go_wp2_with fail
    clear c1 c2 l0 l1 l2 l3 m0 m1 m2 m3
    go_roundw
    case rel => exact ⟨m, by omega, by go_num, by repeat (first | exact hd | apply Mix.Dr.drewN)⟩
    case measure => simp [intOf]; omega
set_option maxRecDepth 100000 in
set_option maxHeartbeats 3200000 in
theorem sort_walk_001 (w : World) (v : Value) (zs : List Int) (h : Ints16At w v zs) :
    Calls Try.prog 11 #[v, .bool false, .bool false, .bool true] w fun e w' => e = .returned (.bool true) ∧ Mix.Ex w w' := by
  have h' := h
  obtain ⟨⟨o, cap0, rfl, hcells⟩, hle, hwf⟩ := h
  clear hcells hwf
  go_enter Try.func11, Try.ntmps11
  go_wp2_with fail
  · go_ret
    exact ⟨rfl, Mix.Ex.refl _⟩
  refine (specBoxes_c w _ zs h').mono ?_
  rintro e w1 ⟨gb, cap, rfl, hr, hx⟩
  have hl := boxesOf_le zs
  generalize boxesOf zs = rs at hr hl ⊢
  obtain ⟨n, hn⟩ : ∃ n, rs.length = n := ⟨_, rfl⟩
  have HN := Lib.hid hn
  have HS := implSort_c w1 gb cap _ rs 0 false true (by omega) hr hl
  rw [hn] at hr hl HS ⊢
  clear hn
  go_wp2_with fail
  refine (HS.mono ?_ : Calls _ _ _ w1 _)
  rintro e w2 ⟨vo, g, rfl, hg, hro, hx2⟩
  have hr := hr.ex hx2
  have hx := hx.trans hx2
  obtain ⟨σ, f1, f2, f3⟩ := sort_facts HN.out hg
  obtain ⟨o1, o2, o3⟩ := once_facts f1 f2
  have F1 := Lib.hid f1
  have F3 := Lib.hid f3
  clear HS hg f1 f2 f3 hx2
  have hlenL : ((List.range n).map g).length = n := by simp
  rcases hro.form with ⟨rfl, hz⟩ | ⟨go, co, rfl, hg1, hg2, hg3, hg4⟩
  · go_wp2_with fail
    have hal : (w2.alloc (.cells #[(.slice none 0 0)] 40)).heap[w2.heap.size]? = some (.cells #[(.slice none 0 0)] 40 (0, 0)) := heap_alloc_new w2 _
    have hxa := (Mix.Ex.refl w2).alloc (.cells #[(.slice none 0 0)] 40)
    refine (once_c (w2.alloc (.cells #[(.slice none 0 0)] 40)) n w2.heap.size 1 w1.heap.size 1 [(List.range n).map g] (by simp) (fun j L hj => ?_) hl o1 o2 o3 rfl (by omega)).mono ?_
    · have : j = 0 := by
        rcases j with _ | j
        · rfl
        · simp at hj
      subst this
      simp only [List.getElem?_cons_zero, Option.some.injEq] at hj
      subst hj
      exact ⟨.slice none 0 0, by rw [cell_of_row _ _ 0 _ _ _ hal]; rfl, hro.ex hxa⟩
    rintro e w3 ⟨rfl, hx3⟩
    have hx3 := hxa.trans hx3
    have hr := hr.ex hx3
    have hro := hro.ex hx3
    have hx := hx.trans hx3
    clear hal hxa o1 o2 o3
    go_wp2_with fail
    go_loopw [12] (fun i wr => i = .int .i64 1 ∧ wr = w3) (fun i _ => 0)
    case atStart => exact ⟨rfl, rfl⟩
    case round =>
      obtain ⟨rfl, rfl⟩ := hrel
      go_wp2_with fail
      go_ret
      exact ⟨rfl, hx⟩
  rw [hlenL] at hro hg3
  clear hlenL
  go_wp2_with fail
  have hal : (w2.alloc (.cells #[.slice (some ⟨go, 0, none⟩) n co] 40)).heap[w2.heap.size]? = some (.cells #[.slice (some ⟨go, 0, none⟩) n co] 40 (0, 0)) := heap_alloc_new w2 _
  have hxa := (Mix.Ex.refl w2).alloc (.cells #[.slice (some ⟨go, 0, none⟩) n co] 40)
  refine (once_c (w2.alloc (.cells #[.slice (some ⟨go, 0, none⟩) n co] 40)) n w2.heap.size 1 w1.heap.size 1 [(List.range n).map g] (by simp) (fun j L hj => ?_) hl o1 o2 o3 rfl (by omega)).mono ?_
  · have : j = 0 := by
      rcases j with _ | j
      · rfl
      · simp at hj
    subst this
    simp only [List.getElem?_cons_zero, Option.some.injEq] at hj
    subst hj
    exact ⟨_, by rw [cell_of_row _ _ 0 _ _ _ hal]; rfl, hro.ex hxa⟩
  rintro e w3 ⟨rfl, hx3⟩
  have hx3 := hxa.trans hx3
  have hr := hr.ex hx3
  have hro := hro.ex hx3
  have hx := hx.trans hx3
  clear hal hxa o1 o2 o3
  go_wp2_with fail
  go_loopw [12] (fun i wr => ∃ k : Nat, k + 1 ≤ max n 1 ∧ i = .int .i64 ((k + 1 : Nat) : Int) ∧ Mix.Dr w3 wr) (fun i _ => n - (intOf i).toNat)
  case atStart => exact ⟨0, by omega, rfl, Mix.Dr.refl _⟩
  case round =>
    obtain ⟨k, hk, rfl, hd⟩ := hrel
    obtain ⟨m, hm⟩ : ∃ m, k + 1 = m := ⟨_, rfl⟩
    have HM := Lib.hid hm
    have hmi : (m : Int) - 1 = k := by omega
    rw [hm] at hk ⊢
    clear hm
    have hxd := Mix.Ex.of_dr hd
    by_cases hlt : m < n
    case neg =>
      go_wp2_with fail
      go_ret
      exact ⟨rfl, hx.trans hxd⟩
    have hkn : k < n := by have := HM.out; omega
    obtain ⟨e1, q1⟩ := F1.out k hkn
    obtain ⟨e2, q2⟩ := F1.out m hlt
    have c1 : wr.cell? ⟨go, k, none⟩ = some (.int .i64 (σ k)) := by
      have := (hro.ex hxd).cell (i := k) (j := 0) (x := g k) (by simp [hkn]) (u := .int .i64 (g k)) rfl
      rw [e1] at this
      simpa using this
    have c2 : wr.cell? ⟨go, m, none⟩ = some (.int .i64 (σ m)) := by
      have := (hro.ex hxd).cell (i := m) (j := 0) (x := g m) (by simp [hlt]) (u := .int .i64 (g m)) rfl
      rw [e2] at this
      simpa using this
    obtain ⟨r, hrk⟩ : ∃ r, rs[σ k]? = some r := ⟨rs[σ k]'(by have := HN.out; omega), List.getElem?_eq_getElem _⟩
    obtain ⟨s, hsk⟩ : ∃ s, rs[σ m]? = some s := ⟨rs[σ m]'(by have := HN.out; omega), List.getElem?_eq_getElem _⟩
    obtain ⟨l0, l1, l2, l3⟩ := row_cells (hr.ex hxd) hrk
    obtain ⟨m0, m1, m2, m3⟩ := row_cells (hr.ex hxd) hsk
    have hcmp : r.x1 ≤ s.x1 := by
      have h1 := F3.out k (by have := HM.out; omega) r s hrk (by rw [HM.out]; exact hsk)
      exact h1.1 (by first | rfl | trivial)
    generalize σ k = i1 at *
    generalize σ m = i2 at *
    have HE1 := Lib.hid e1
    have HE2 := Lib.hid e2
    clear e1 e2 hrk hsk
    go_wp2_with fail
    (refine Mix.wp_region_dr (by kernel_rfl) (by kernel_rfl) ?_; (repeat (go_big_quiet_step (fail))); refine wpQuiet_nil ?_; intro nq)
    go_wp2_with fail
    (refine Mix.wp_region_dr (by kernel_rfl) (by kernel_rfl) ?_; (repeat (go_big_quiet_step (fail))); refine wpQuiet_nil ?_; intro nq)
    go_wp2_with fail
    clear c1 c2 l0 l1 l2 l3 m0 m1 m2 m3
    go_roundw
    case rel => exact ⟨m, by omega, by go_num, by repeat (first | exact hd | apply Mix.Dr.drewN)⟩
    case measure => simp [intOf]; omega
set_option maxRecDepth 100000 in
set_option maxHeartbeats 3200000 in
theorem sort_walk_010 (w : World) (v : Value) (zs : List Int) (h : Ints16At w v zs) :
    Calls Try.prog 11 #[v, .bool false, .bool true, .bool false] w fun e w' => e = .returned (.bool true) ∧ Mix.Ex w w' := by
  have h' := h
  obtain ⟨⟨o, cap0, rfl, hcells⟩, hle, hwf⟩ := h
  clear hcells hwf
  go_enter Try.func11, Try.ntmps11
  go_wp2_with fail
  · go_ret
    exact ⟨rfl, Mix.Ex.refl _⟩
  refine (specBoxes_c w _ zs h').mono ?_
  rintro e w1 ⟨gb, cap, rfl, hr, hx⟩
  have hl := boxesOf_le zs
  generalize boxesOf zs = rs at hr hl ⊢
  obtain ⟨n, hn⟩ : ∃ n, rs.length = n := ⟨_, rfl⟩
  have HN := Lib.hid hn
  have HS := implSort_c w1 gb cap _ rs 0 true false (by omega) hr hl
  rw [hn] at hr hl HS ⊢
  clear hn
  go_wp2_with fail
  refine (HS.mono ?_ : Calls _ _ _ w1 _)
  rintro e w2 ⟨vo, g, rfl, hg, hro, hx2⟩
  have hr := hr.ex hx2
  have hx := hx.trans hx2
  obtain ⟨σ, f1, f2, f3⟩ := sort_facts HN.out hg
  obtain ⟨o1, o2, o3⟩ := once_facts f1 f2
  have F1 := Lib.hid f1
  have F3 := Lib.hid f3
  clear HS hg f1 f2 f3 hx2
  have hlenL : ((List.range n).map g).length = n := by simp
  rcases hro.form with ⟨rfl, hz⟩ | ⟨go, co, rfl, hg1, hg2, hg3, hg4⟩
  · go_wp2_with fail
    have hal : (w2.alloc (.cells #[(.slice none 0 0)] 40)).heap[w2.heap.size]? = some (.cells #[(.slice none 0 0)] 40 (0, 0)) := heap_alloc_new w2 _
    have hxa := (Mix.Ex.refl w2).alloc (.cells #[(.slice none 0 0)] 40)
    refine (once_c (w2.alloc (.cells #[(.slice none 0 0)] 40)) n w2.heap.size 1 w1.heap.size 1 [(List.range n).map g] (by simp) (fun j L hj => ?_) hl o1 o2 o3 rfl (by omega)).mono ?_
    · have : j = 0 := by
        rcases j with _ | j
        · rfl
        · simp at hj
      subst this
      simp only [List.getElem?_cons_zero, Option.some.injEq] at hj
      subst hj
      exact ⟨.slice none 0 0, by rw [cell_of_row _ _ 0 _ _ _ hal]; rfl, hro.ex hxa⟩
    rintro e w3 ⟨rfl, hx3⟩
    have hx3 := hxa.trans hx3
    have hr := hr.ex hx3
    have hro := hro.ex hx3
    have hx := hx.trans hx3
    clear hal hxa o1 o2 o3
    go_wp2_with fail
    go_loopw [12] (fun i wr => i = .int .i64 1 ∧ wr = w3) (fun i _ => 0)
    case atStart => exact ⟨rfl, rfl⟩
    case round =>
      obtain ⟨rfl, rfl⟩ := hrel
      go_wp2_with fail
      go_ret
      exact ⟨rfl, hx⟩
  rw [hlenL] at hro hg3
  clear hlenL
  go_wp2_with fail
  have hal : (w2.alloc (.cells #[.slice (some ⟨go, 0, none⟩) n co] 40)).heap[w2.heap.size]? = some (.cells #[.slice (some ⟨go, 0, none⟩) n co] 40 (0, 0)) := heap_alloc_new w2 _
  have hxa := (Mix.Ex.refl w2).alloc (.cells #[.slice (some ⟨go, 0, none⟩) n co] 40)
  refine (once_c (w2.alloc (.cells #[.slice (some ⟨go, 0, none⟩) n co] 40)) n w2.heap.size 1 w1.heap.size 1 [(List.range n).map g] (by simp) (fun j L hj => ?_) hl o1 o2 o3 rfl (by omega)).mono ?_
  · have : j = 0 := by
      rcases j with _ | j
      · rfl
      · simp at hj
    subst this
    simp only [List.getElem?_cons_zero, Option.some.injEq] at hj
    subst hj
    exact ⟨_, by rw [cell_of_row _ _ 0 _ _ _ hal]; rfl, hro.ex hxa⟩
  rintro e w3 ⟨rfl, hx3⟩
  have hx3 := hxa.trans hx3
  have hr := hr.ex hx3
  have hro := hro.ex hx3
  have hx := hx.trans hx3
  clear hal hxa o1 o2 o3
  go_wp2_with fail
  go_loopw [12] (fun i wr => ∃ k : Nat, k + 1 ≤ max n 1 ∧ i = .int .i64 ((k + 1 : Nat) : Int) ∧ Mix.Dr w3 wr) (fun i _ => n - (intOf i).toNat)
  case atStart => exact ⟨0, by omega, rfl, Mix.Dr.refl _⟩
  case round =>
    obtain ⟨k, hk, rfl, hd⟩ := hrel
    obtain ⟨m, hm⟩ : ∃ m, k + 1 = m := ⟨_, rfl⟩
    have HM := Lib.hid hm
    have hmi : (m : Int) - 1 = k := by omega
    rw [hm] at hk ⊢
    clear hm
    have hxd := Mix.Ex.of_dr hd
    by_cases hlt : m < n
    case neg =>
      go_wp2_with fail
      go_ret
      exact ⟨rfl, hx.trans hxd⟩
    have hkn : k < n := by have := HM.out; omega
    obtain ⟨e1, q1⟩ := F1.out k hkn
    obtain ⟨e2, q2⟩ := F1.out m hlt
    have c1 : wr.cell? ⟨go, k, none⟩ = some (.int .i64 (σ k)) := by
      have := (hro.ex hxd).cell (i := k) (j := 0) (x := g k) (by simp [hkn]) (u := .int .i64 (g k)) rfl
      rw [e1] at this
      simpa using this
    have c2 : wr.cell? ⟨go, m, none⟩ = some (.int .i64 (σ m)) := by
      have := (hro.ex hxd).cell (i := m) (j := 0) (x := g m) (by simp [hlt]) (u := .int .i64 (g m)) rfl
      rw [e2] at this
      simpa using this
    obtain ⟨r, hrk⟩ : ∃ r, rs[σ k]? = some r := ⟨rs[σ k]'(by have := HN.out; omega), List.getElem?_eq_getElem _⟩
    obtain ⟨s, hsk⟩ : ∃ s, rs[σ m]? = some s := ⟨rs[σ m]'(by have := HN.out; omega), List.getElem?_eq_getElem _⟩
    obtain ⟨l0, l1, l2, l3⟩ := row_cells (hr.ex hxd) hrk
    obtain ⟨m0, m1, m2, m3⟩ := row_cells (hr.ex hxd) hsk
    have hcmp : s.x0 ≤ r.x0 := by
      have h1 := F3.out k (by have := HM.out; omega) r s hrk (by rw [HM.out]; exact hsk)
      exact h1.2 (by first | rfl | trivial)
    generalize σ k = i1 at *
    generalize σ m = i2 at *
    have HE1 := Lib.hid e1
    have HE2 := Lib.hid e2
    clear e1 e2 hrk hsk
    go_wp2_with fail
    (refine Mix.wp_region_dr (by kernel_rfl) (by kernel_rfl) ?_; (repeat (go_big_quiet_step (fail))); refine wpQuiet_nil ?_; intro nq)
    go_wp2_with fail
    clear c1 c2 l0 l1 l2 l3 m0 m1 m2 m3
    go_roundw
    case rel => exact ⟨m, by omega, by go_num, by repeat (first | exact hd | apply Mix.Dr.drewN)⟩
    case measure => simp [intOf]; omega
set_option maxRecDepth 100000 in
set_option maxHeartbeats 3200000 in
theorem sort_walk_011 (w : World) (v : Value) (zs : List Int) (h : Ints16At w v zs) :
    Calls Try.prog 11 #[v, .bool false, .bool true, .bool true] w fun e w' => e = .returned (.bool true) ∧ Mix.Ex w w' := by
  have h' := h
  obtain ⟨⟨o, cap0, rfl, hcells⟩, hle, hwf⟩ := h
  clear hcells hwf
  go_enter Try.func11, Try.ntmps11
  go_wp2_with fail
  · go_ret
    exact ⟨rfl, Mix.Ex.refl _⟩
  refine (specBoxes_c w _ zs h').mono ?_
  rintro e w1 ⟨gb, cap, rfl, hr, hx⟩
  have hl := boxesOf_le zs
  generalize boxesOf zs = rs at hr hl ⊢
  obtain ⟨n, hn⟩ : ∃ n, rs.length = n := ⟨_, rfl⟩
  have HN := Lib.hid hn
  have HS := implSort_c w1 gb cap _ rs 0 true true (by omega) hr hl
  rw [hn] at hr hl HS ⊢
  clear hn
  go_wp2_with fail
  refine (HS.mono ?_ : Calls _ _ _ w1 _)
  rintro e w2 ⟨vo, g, rfl, hg, hro, hx2⟩
  have hr := hr.ex hx2
  have hx := hx.trans hx2
  obtain ⟨σ, f1, f2, f3⟩ := sort_facts HN.out hg
  obtain ⟨o1, o2, o3⟩ := once_facts f1 f2
  have F1 := Lib.hid f1
  have F3 := Lib.hid f3
  clear HS hg f1 f2 f3 hx2
  have hlenL : ((List.range n).map g).length = n := by simp
  rcases hro.form with ⟨rfl, hz⟩ | ⟨go, co, rfl, hg1, hg2, hg3, hg4⟩
  · go_wp2_with fail
    have hal : (w2.alloc (.cells #[(.slice none 0 0)] 40)).heap[w2.heap.size]? = some (.cells #[(.slice none 0 0)] 40 (0, 0)) := heap_alloc_new w2 _
    have hxa := (Mix.Ex.refl w2).alloc (.cells #[(.slice none 0 0)] 40)
    refine (once_c (w2.alloc (.cells #[(.slice none 0 0)] 40)) n w2.heap.size 1 w1.heap.size 1 [(List.range n).map g] (by simp) (fun j L hj => ?_) hl o1 o2 o3 rfl (by omega)).mono ?_
    · have : j = 0 := by
        rcases j with _ | j
        · rfl
        · simp at hj
      subst this
      simp only [List.getElem?_cons_zero, Option.some.injEq] at hj
      subst hj
      exact ⟨.slice none 0 0, by rw [cell_of_row _ _ 0 _ _ _ hal]; rfl, hro.ex hxa⟩
    rintro e w3 ⟨rfl, hx3⟩
    have hx3 := hxa.trans hx3
    have hr := hr.ex hx3
    have hro := hro.ex hx3
    have hx := hx.trans hx3
    clear hal hxa o1 o2 o3
    go_wp2_with fail
    go_loopw [12] (fun i wr => i = .int .i64 1 ∧ wr = w3) (fun i _ => 0)
    case atStart => exact ⟨rfl, rfl⟩
    case round =>
      obtain ⟨rfl, rfl⟩ := hrel
      go_wp2_with fail
      go_ret
      exact ⟨rfl, hx⟩
  rw [hlenL] at hro hg3
  clear hlenL
  go_wp2_with fail
  have hal : (w2.alloc (.cells #[.slice (some ⟨go, 0, none⟩) n co] 40)).heap[w2.heap.size]? = some (.cells #[.slice (some ⟨go, 0, none⟩) n co] 40 (0, 0)) := heap_alloc_new w2 _
  have hxa := (Mix.Ex.refl w2).alloc (.cells #[.slice (some ⟨go, 0, none⟩) n co] 40)
  refine (once_c (w2.alloc (.cells #[.slice (some ⟨go, 0, none⟩) n co] 40)) n w2.heap.size 1 w1.heap.size 1 [(List.range n).map g] (by simp) (fun j L hj => ?_) hl o1 o2 o3 rfl (by omega)).mono ?_
  · have : j = 0 := by
      rcases j with _ | j
      · rfl
      · simp at hj
    subst this
    simp only [List.getElem?_cons_zero, Option.some.injEq] at hj
    subst hj
    exact ⟨_, by rw [cell_of_row _ _ 0 _ _ _ hal]; rfl, hro.ex hxa⟩
  rintro e w3 ⟨rfl, hx3⟩
  have hx3 := hxa.trans hx3
  have hr := hr.ex hx3
  have hro := hro.ex hx3
  have hx := hx.trans hx3
  clear hal hxa o1 o2 o3
  go_wp2_with fail
  go_loopw [12] (fun i wr => ∃ k : Nat, k + 1 ≤ max n 1 ∧ i = .int .i64 ((k + 1 : Nat) : Int) ∧ Mix.Dr w3 wr) (fun i _ => n - (intOf i).toNat)
  case atStart => exact ⟨0, by omega, rfl, Mix.Dr.refl _⟩
  case round =>
    obtain ⟨k, hk, rfl, hd⟩ := hrel
    obtain ⟨m, hm⟩ : ∃ m, k + 1 = m := ⟨_, rfl⟩
    have HM := Lib.hid hm
    have hmi : (m : Int) - 1 = k := by omega
    rw [hm] at hk ⊢
    clear hm
    have hxd := Mix.Ex.of_dr hd
    by_cases hlt : m < n
    case neg =>
      go_wp2_with fail
      go_ret
      exact ⟨rfl, hx.trans hxd⟩
    have hkn : k < n := by have := HM.out; omega
    obtain ⟨e1, q1⟩ := F1.out k hkn
    obtain ⟨e2, q2⟩ := F1.out m hlt
    have c1 : wr.cell? ⟨go, k, none⟩ = some (.int .i64 (σ k)) := by
      have := (hro.ex hxd).cell (i := k) (j := 0) (x := g k) (by simp [hkn]) (u := .int .i64 (g k)) rfl
      rw [e1] at this
      simpa using this
    have c2 : wr.cell? ⟨go, m, none⟩ = some (.int .i64 (σ m)) := by
      have := (hro.ex hxd).cell (i := m) (j := 0) (x := g m) (by simp [hlt]) (u := .int .i64 (g m)) rfl
      rw [e2] at this
      simpa using this
    obtain ⟨r, hrk⟩ : ∃ r, rs[σ k]? = some r := ⟨rs[σ k]'(by have := HN.out; omega), List.getElem?_eq_getElem _⟩
    obtain ⟨s, hsk⟩ : ∃ s, rs[σ m]? = some s := ⟨rs[σ m]'(by have := HN.out; omega), List.getElem?_eq_getElem _⟩
    obtain ⟨l0, l1, l2, l3⟩ := row_cells (hr.ex hxd) hrk
    obtain ⟨m0, m1, m2, m3⟩ := row_cells (hr.ex hxd) hsk
    have hcmp : s.x1 ≤ r.x1 := by
      have h1 := F3.out k (by have := HM.out; omega) r s hrk (by rw [HM.out]; exact hsk)
      exact h1.2 (by first | rfl | trivial)
    generalize σ k = i1 at *
    generalize σ m = i2 at *
    have HE1 := Lib.hid e1
    have HE2 := Lib.hid e2
    clear e1 e2 hrk hsk
    go_wp2_with fail
    (refine Mix.wp_region_dr (by kernel_rfl) (by kernel_rfl) ?_; (repeat (go_big_quiet_step (fail))); refine wpQuiet_nil ?_; intro nq)
    go_wp2_with fail
    (refine Mix.wp_region_dr (by kernel_rfl) (by kernel_rfl) ?_; (repeat (go_big_quiet_step (fail))); refine wpQuiet_nil ?_; intro nq)
    go_wp2_with fail
    clear c1 c2 l0 l1 l2 l3 m0 m1 m2 m3
    go_roundw
    case rel => exact ⟨m, by omega, by go_num, by repeat (first | exact hd | apply Mix.Dr.drewN)⟩
    case measure => simp [intOf]; omega
set_option maxRecDepth 100000 in
set_option maxHeartbeats 3200000 in
theorem sort_walk_100 (w : World) (v : Value) (zs : List Int) (h : Ints16At w v zs) :
    Calls Try.prog 11 #[v, .bool true, .bool false, .bool false] w fun e w' => e = .returned (.bool true) ∧ Mix.Ex w w' := by
  have h' := h
  obtain ⟨⟨o, cap0, rfl, hcells⟩, hle, hwf⟩ := h
  clear hcells hwf
  go_enter Try.func11, Try.ntmps11
  go_wp2_with fail
  · go_ret
    exact ⟨rfl, Mix.Ex.refl _⟩
  refine (specBoxes_c w _ zs h').mono ?_
  rintro e w1 ⟨gb, cap, rfl, hr, hx⟩
  have hl := boxesOf_le zs
  generalize boxesOf zs = rs at hr hl ⊢
  obtain ⟨n, hn⟩ : ∃ n, rs.length = n := ⟨_, rfl⟩
  have HN := Lib.hid hn
  have HS := implSort_c w1 gb cap _ rs 1 false false (by omega) hr hl
  rw [hn] at hr hl HS ⊢
  clear hn
  go_wp2_with fail
  refine (HS.mono ?_ : Calls _ _ _ w1 _)
  rintro e w2 ⟨vo, g, rfl, hg, hro, hx2⟩
  have hr := hr.ex hx2
  have hx := hx.trans hx2
  obtain ⟨σ, f1, f2, f3⟩ := sort_facts HN.out hg
  obtain ⟨o1, o2, o3⟩ := once_facts f1 f2
  have F1 := Lib.hid f1
  have F3 := Lib.hid f3
  clear HS hg f1 f2 f3 hx2
  have hlenL : ((List.range n).map g).length = n := by simp
  rcases hro.form with ⟨rfl, hz⟩ | ⟨go, co, rfl, hg1, hg2, hg3, hg4⟩
  · go_wp2_with fail
    have hal : (w2.alloc (.cells #[(.slice none 0 0)] 40)).heap[w2.heap.size]? = some (.cells #[(.slice none 0 0)] 40 (0, 0)) := heap_alloc_new w2 _
    have hxa := (Mix.Ex.refl w2).alloc (.cells #[(.slice none 0 0)] 40)
    refine (once_c (w2.alloc (.cells #[(.slice none 0 0)] 40)) n w2.heap.size 1 w1.heap.size 1 [(List.range n).map g] (by simp) (fun j L hj => ?_) hl o1 o2 o3 rfl (by omega)).mono ?_
    · have : j = 0 := by
        rcases j with _ | j
        · rfl
        · simp at hj
      subst this
      simp only [List.getElem?_cons_zero, Option.some.injEq] at hj
      subst hj
      exact ⟨.slice none 0 0, by rw [cell_of_row _ _ 0 _ _ _ hal]; rfl, hro.ex hxa⟩
    rintro e w3 ⟨rfl, hx3⟩
    have hx3 := hxa.trans hx3
    have hr := hr.ex hx3
    have hro := hro.ex hx3
    have hx := hx.trans hx3
    clear hal hxa o1 o2 o3
    go_wp2_with fail
    go_loopw [12] (fun i wr => i = .int .i64 1 ∧ wr = w3) (fun i _ => 0)
    case atStart => exact ⟨rfl, rfl⟩
    case round =>
      obtain ⟨rfl, rfl⟩ := hrel
      go_wp2_with fail
      go_ret
      exact ⟨rfl, hx⟩
  rw [hlenL] at hro hg3
  clear hlenL
  go_wp2_with fail
  have hal : (w2.alloc (.cells #[.slice (some ⟨go, 0, none⟩) n co] 40)).heap[w2.heap.size]? = some (.cells #[.slice (some ⟨go, 0, none⟩) n co] 40 (0, 0)) := heap_alloc_new w2 _
  have hxa := (Mix.Ex.refl w2).alloc (.cells #[.slice (some ⟨go, 0, none⟩) n co] 40)
  refine (once_c (w2.alloc (.cells #[.slice (some ⟨go, 0, none⟩) n co] 40)) n w2.heap.size 1 w1.heap.size 1 [(List.range n).map g] (by simp) (fun j L hj => ?_) hl o1 o2 o3 rfl (by omega)).mono ?_
  · have : j = 0 := by
      rcases j with _ | j
      · rfl
      · simp at hj
    subst this
    simp only [List.getElem?_cons_zero, Option.some.injEq] at hj
    subst hj
    exact ⟨_, by rw [cell_of_row _ _ 0 _ _ _ hal]; rfl, hro.ex hxa⟩
  rintro e w3 ⟨rfl, hx3⟩
  have hx3 := hxa.trans hx3
  have hr := hr.ex hx3
  have hro := hro.ex hx3
  have hx := hx.trans hx3
  clear hal hxa o1 o2 o3
  go_wp2_with fail
  go_loopw [12] (fun i wr => ∃ k : Nat, k + 1 ≤ max n 1 ∧ i = .int .i64 ((k + 1 : Nat) : Int) ∧ Mix.Dr w3 wr) (fun i _ => n - (intOf i).toNat)
  case atStart => exact ⟨0, by omega, rfl, Mix.Dr.refl _⟩
  case round =>
    obtain ⟨k, hk, rfl, hd⟩ := hrel
    obtain ⟨m, hm⟩ : ∃ m, k + 1 = m := ⟨_, rfl⟩
    have HM := Lib.hid hm
    have hmi : (m : Int) - 1 = k := by omega
    rw [hm] at hk ⊢
    clear hm
    have hxd := Mix.Ex.of_dr hd
    by_cases hlt : m < n
    case neg =>
      go_wp2_with fail
      go_ret
      exact ⟨rfl, hx.trans hxd⟩
    have hkn : k < n := by have := HM.out; omega
    obtain ⟨e1, q1⟩ := F1.out k hkn
    obtain ⟨e2, q2⟩ := F1.out m hlt
    have c1 : wr.cell? ⟨go, k, none⟩ = some (.int .i64 (σ k)) := by
      have := (hro.ex hxd).cell (i := k) (j := 0) (x := g k) (by simp [hkn]) (u := .int .i64 (g k)) rfl
      rw [e1] at this
      simpa using this
    have c2 : wr.cell? ⟨go, m, none⟩ = some (.int .i64 (σ m)) := by
      have := (hro.ex hxd).cell (i := m) (j := 0) (x := g m) (by simp [hlt]) (u := .int .i64 (g m)) rfl
      rw [e2] at this
      simpa using this
    obtain ⟨r, hrk⟩ : ∃ r, rs[σ k]? = some r := ⟨rs[σ k]'(by have := HN.out; omega), List.getElem?_eq_getElem _⟩
    obtain ⟨s, hsk⟩ : ∃ s, rs[σ m]? = some s := ⟨rs[σ m]'(by have := HN.out; omega), List.getElem?_eq_getElem _⟩
    obtain ⟨l0, l1, l2, l3⟩ := row_cells (hr.ex hxd) hrk
    obtain ⟨m0, m1, m2, m3⟩ := row_cells (hr.ex hxd) hsk
    have hcmp : r.y0 ≤ s.y0 := by
      have h1 := F3.out k (by have := HM.out; omega) r s hrk (by rw [HM.out]; exact hsk)
      exact h1.1 (by first | rfl | trivial)
    generalize σ k = i1 at *
    generalize σ m = i2 at *
    have HE1 := Lib.hid e1
    have HE2 := Lib.hid e2
    clear e1 e2 hrk hsk
    go_wp2_with fail
    (refine Mix.wp_region_dr (by kernel_rfl) (by kernel_rfl) ?_; (repeat (go_big_quiet_step (fail))); refine wpQuiet_nil ?_; intro nq)
    go_wp2_with fail
    clear c1 c2 l0 l1 l2 l3 m0 m1 m2 m3
    go_roundw
    case rel => exact ⟨m, by omega, by go_num, by repeat (first | exact hd | apply Mix.Dr.drewN)⟩
    case measure => simp [intOf]; omega
set_option maxRecDepth 100000 in
set_option maxHeartbeats 3200000 in
theorem sort_walk_101 (w : World) (v : Value) (zs : List Int) (h : Ints16At w v zs) :
    Calls Try.prog 11 #[v, .bool true, .bool false, .bool true] w fun e w' => e = .returned (.bool true) ∧ Mix.Ex w w' := by
  have h' := h
  obtain ⟨⟨o, cap0, rfl, hcells⟩, hle, hwf⟩ := h
  clear hcells hwf
  go_enter Try.func11, Try.ntmps11
  go_wp2_with fail
  · go_ret
    exact ⟨rfl, Mix.Ex.refl _⟩
  refine (specBoxes_c w _ zs h').mono ?_
  rintro e w1 ⟨gb, cap, rfl, hr, hx⟩
  have hl := boxesOf_le zs
  generalize boxesOf zs = rs at hr hl ⊢
  obtain ⟨n, hn⟩ : ∃ n, rs.length = n := ⟨_, rfl⟩
  have HN := Lib.hid hn
  have HS := implSort_c w1 gb cap _ rs 1 false true (by omega) hr hl
  rw [hn] at hr hl HS ⊢
  clear hn
  go_wp2_with fail
  refine (HS.mono ?_ : Calls _ _ _ w1 _)
  rintro e w2 ⟨vo, g, rfl, hg, hro, hx2⟩
  have hr := hr.ex hx2
  have hx := hx.trans hx2
  obtain ⟨σ, f1, f2, f3⟩ := sort_facts HN.out hg
  obtain ⟨o1, o2, o3⟩ := once_facts f1 f2
  have F1 := Lib.hid f1
  have F3 := Lib.hid f3
  clear HS hg f1 f2 f3 hx2
  have hlenL : ((List.range n).map g).length = n := by simp
  rcases hro.form with ⟨rfl, hz⟩ | ⟨go, co, rfl, hg1, hg2, hg3, hg4⟩
  · go_wp2_with fail
    have hal : (w2.alloc (.cells #[(.slice none 0 0)] 40)).heap[w2.heap.size]? = some (.cells #[(.slice none 0 0)] 40 (0, 0)) := heap_alloc_new w2 _
    have hxa := (Mix.Ex.refl w2).alloc (.cells #[(.slice none 0 0)] 40)
    refine (once_c (w2.alloc (.cells #[(.slice none 0 0)] 40)) n w2.heap.size 1 w1.heap.size 1 [(List.range n).map g] (by simp) (fun j L hj => ?_) hl o1 o2 o3 rfl (by omega)).mono ?_
    · have : j = 0 := by
        rcases j with _ | j
        · rfl
        · simp at hj
      subst this
      simp only [List.getElem?_cons_zero, Option.some.injEq] at hj
      subst hj
      exact ⟨.slice none 0 0, by rw [cell_of_row _ _ 0 _ _ _ hal]; rfl, hro.ex hxa⟩
    rintro e w3 ⟨rfl, hx3⟩
    have hx3 := hxa.trans hx3
    have hr := hr.ex hx3
    have hro := hro.ex hx3
    have hx := hx.trans hx3
    clear hal hxa o1 o2 o3
    go_wp2_with fail
    go_loopw [12] (fun i wr => i = .int .i64 1 ∧ wr = w3) (fun i _ => 0)
    case atStart => exact ⟨rfl, rfl⟩
    case round =>
      obtain ⟨rfl, rfl⟩ := hrel
      go_wp2_with fail
      go_ret
      exact ⟨rfl, hx⟩
  rw [hlenL] at hro hg3
  clear hlenL
  go_wp2_with fail
  have hal : (w2.alloc (.cells #[.slice (some ⟨go, 0, none⟩) n co] 40)).heap[w2.heap.size]? = some (.cells #[.slice (some ⟨go, 0, none⟩) n co] 40 (0, 0)) := heap_alloc_new w2 _
  have hxa := (Mix.Ex.refl w2).alloc (.cells #[.slice (some ⟨go, 0, none⟩) n co] 40)
  refine (once_c (w2.alloc (.cells #[.slice (some ⟨go, 0, none⟩) n co] 40)) n w2.heap.size 1 w1.heap.size 1 [(List.range n).map g] (by simp) (fun j L hj => ?_) hl o1 o2 o3 rfl (by omega)).mono ?_
  · have : j = 0 := by
      rcases j with _ | j
      · rfl
      · simp at hj
    subst this
    simp only [List.getElem?_cons_zero, Option.some.injEq] at hj
    subst hj
    exact ⟨_, by rw [cell_of_row _ _ 0 _ _ _ hal]; rfl, hro.ex hxa⟩
  rintro e w3 ⟨rfl, hx3⟩
  have hx3 := hxa.trans hx3
  have hr := hr.ex hx3
  have hro := hro.ex hx3
  have hx := hx.trans hx3
  clear hal hxa o1 o2 o3
  go_wp2_with fail
  go_loopw [12] (fun i wr => ∃ k : Nat, k + 1 ≤ max n 1 ∧ i = .int .i64 ((k + 1 : Nat) : Int) ∧ Mix.Dr w3 wr) (fun i _ => n - (intOf i).toNat)
  case atStart => exact ⟨0, by omega, rfl, Mix.Dr.refl _⟩
  case round =>
    obtain ⟨k, hk, rfl, hd⟩ := hrel
    obtain ⟨m, hm⟩ : ∃ m, k + 1 = m := ⟨_, rfl⟩
    have HM := Lib.hid hm
    have hmi : (m : Int) - 1 = k := by omega
    rw [hm] at hk ⊢
    clear hm
    have hxd := Mix.Ex.of_dr hd
    by_cases hlt : m < n
    case neg =>
      go_wp2_with fail
      go_ret
      exact ⟨rfl, hx.trans hxd⟩
    have hkn : k < n := by have := HM.out; omega
    obtain ⟨e1, q1⟩ := F1.out k hkn
    obtain ⟨e2, q2⟩ := F1.out m hlt
    have c1 : wr.cell? ⟨go, k, none⟩ = some (.int .i64 (σ k)) := by
      have := (hro.ex hxd).cell (i := k) (j := 0) (x := g k) (by simp [hkn]) (u := .int .i64 (g k)) rfl
      rw [e1] at this
      simpa using this
    have c2 : wr.cell? ⟨go, m, none⟩ = some (.int .i64 (σ m)) := by
      have := (hro.ex hxd).cell (i := m) (j := 0) (x := g m) (by simp [hlt]) (u := .int .i64 (g m)) rfl
      rw [e2] at this
      simpa using this
    obtain ⟨r, hrk⟩ : ∃ r, rs[σ k]? = some r := ⟨rs[σ k]'(by have := HN.out; omega), List.getElem?_eq_getElem _⟩
    obtain ⟨s, hsk⟩ : ∃ s, rs[σ m]? = some s := ⟨rs[σ m]'(by have := HN.out; omega), List.getElem?_eq_getElem _⟩
    obtain ⟨l0, l1, l2, l3⟩ := row_cells (hr.ex hxd) hrk
    obtain ⟨m0, m1, m2, m3⟩ := row_cells (hr.ex hxd) hsk
    have hcmp : r.y1 ≤ s.y1 := by
      have h1 := F3.out k (by have := HM.out; omega) r s hrk (by rw [HM.out]; exact hsk)
      exact h1.1 (by first | rfl | trivial)
    generalize σ k = i1 at *
    generalize σ m = i2 at *
    have HE1 := Lib.hid e1
    have HE2 := Lib.hid e2
    clear e1 e2 hrk hsk
    go_wp2_with fail
    (refine Mix.wp_region_dr (by kernel_rfl) (by kernel_rfl) ?_; (repeat (go_big_quiet_step (fail))); refine wpQuiet_nil ?_; intro nq)
    go_wp2_with fail
    (refine Mix.wp_region_dr (by kernel_rfl) (by kernel_rfl) ?_; (repeat (go_big_quiet_step (fail))); refine wpQuiet_nil ?_; intro nq)
    go_wp2_with fail
    clear c1 c2 l0 l1 l2 l3 m0 m1 m2 m3
    go_roundw
    case rel => exact ⟨m, by omega, by go_num, by repeat (first | exact hd | apply Mix.Dr.drewN)⟩
    case measure => simp [intOf]; omega
set_option maxRecDepth 100000 in
set_option maxHeartbeats 3200000 in
theorem sort_walk_110 (w : World) (v : Value) (zs : List Int) (h : Ints16At w v zs) :
    Calls Try.prog 11 #[v, .bool true, .bool true, .bool false] w fun e w' => e = .returned (.bool true) ∧ Mix.Ex w w' := by
  have h' := h
  obtain ⟨⟨o, cap0, rfl, hcells⟩, hle, hwf⟩ := h
  clear hcells hwf
  go_enter Try.func11, Try.ntmps11
  go_wp2_with fail
  · go_ret
    exact ⟨rfl, Mix.Ex.refl _⟩
  refine (specBoxes_c w _ zs h').mono ?_
  rintro e w1 ⟨gb, cap, rfl, hr, hx⟩
  have hl := boxesOf_le zs
  generalize boxesOf zs = rs at hr hl ⊢
  obtain ⟨n, hn⟩ : ∃ n, rs.length = n := ⟨_, rfl⟩
  have HN := Lib.hid hn
  have HS := implSort_c w1 gb cap _ rs 1 true false (by omega) hr hl
  rw [hn] at hr hl HS ⊢
  clear hn
  go_wp2_with fail
  refine (HS.mono ?_ : Calls _ _ _ w1 _)
  rintro e w2 ⟨vo, g, rfl, hg, hro, hx2⟩
  have hr := hr.ex hx2
  have hx := hx.trans hx2
  obtain ⟨σ, f1, f2, f3⟩ := sort_facts HN.out hg
  obtain ⟨o1, o2, o3⟩ := once_facts f1 f2
  have F1 := Lib.hid f1
  have F3 := Lib.hid f3
  clear HS hg f1 f2 f3 hx2
  have hlenL : ((List.range n).map g).length = n := by simp
  rcases hro.form with ⟨rfl, hz⟩ | ⟨go, co, rfl, hg1, hg2, hg3, hg4⟩
  · go_wp2_with fail
    have hal : (w2.alloc (.cells #[(.slice none 0 0)] 40)).heap[w2.heap.size]? = some (.cells #[(.slice none 0 0)] 40 (0, 0)) := heap_alloc_new w2 _
    have hxa := (Mix.Ex.refl w2).alloc (.cells #[(.slice none 0 0)] 40)
    refine (once_c (w2.alloc (.cells #[(.slice none 0 0)] 40)) n w2.heap.size 1 w1.heap.size 1 [(List.range n).map g] (by simp) (fun j L hj => ?_) hl o1 o2 o3 rfl (by omega)).mono ?_
    · have : j = 0 := by
        rcases j with _ | j
        · rfl
        · simp at hj
      subst this
      simp only [List.getElem?_cons_zero, Option.some.injEq] at hj
      subst hj
      exact ⟨.slice none 0 0, by rw [cell_of_row _ _ 0 _ _ _ hal]; rfl, hro.ex hxa⟩
    rintro e w3 ⟨rfl, hx3⟩
    have hx3 := hxa.trans hx3
    have hr := hr.ex hx3
    have hro := hro.ex hx3
    have hx := hx.trans hx3
    clear hal hxa o1 o2 o3
    go_wp2_with fail
    go_loopw [12] (fun i wr => i = .int .i64 1 ∧ wr = w3) (fun i _ => 0)
    case atStart => exact ⟨rfl, rfl⟩
    case round =>
      obtain ⟨rfl, rfl⟩ := hrel
      go_wp2_with fail
      go_ret
      exact ⟨rfl, hx⟩
  rw [hlenL] at hro hg3
  clear hlenL
  go_wp2_with fail
  have hal : (w2.alloc (.cells #[.slice (some ⟨go, 0, none⟩) n co] 40)).heap[w2.heap.size]? = some (.cells #[.slice (some ⟨go, 0, none⟩) n co] 40 (0, 0)) := heap_alloc_new w2 _
  have hxa := (Mix.Ex.refl w2).alloc (.cells #[.slice (some ⟨go, 0, none⟩) n co] 40)
  refine (once_c (w2.alloc (.cells #[.slice (some ⟨go, 0, none⟩) n co] 40)) n w2.heap.size 1 w1.heap.size 1 [(List.range n).map g] (by simp) (fun j L hj => ?_) hl o1 o2 o3 rfl (by omega)).mono ?_
  · have : j = 0 := by
      rcases j with _ | j
      · rfl
      · simp at hj
    subst this
    simp only [List.getElem?_cons_zero, Option.some.injEq] at hj
    subst hj
    exact ⟨_, by rw [cell_of_row _ _ 0 _ _ _ hal]; rfl, hro.ex hxa⟩
  rintro e w3 ⟨rfl, hx3⟩
  have hx3 := hxa.trans hx3
  have hr := hr.ex hx3
  have hro := hro.ex hx3
  have hx := hx.trans hx3
  clear hal hxa o1 o2 o3
  go_wp2_with fail
  go_loopw [12] (fun i wr => ∃ k : Nat, k + 1 ≤ max n 1 ∧ i = .int .i64 ((k + 1 : Nat) : Int) ∧ Mix.Dr w3 wr) (fun i _ => n - (intOf i).toNat)
  case atStart => exact ⟨0, by omega, rfl, Mix.Dr.refl _⟩
  case round =>
    obtain ⟨k, hk, rfl, hd⟩ := hrel
    obtain ⟨m, hm⟩ : ∃ m, k + 1 = m := ⟨_, rfl⟩
    have HM := Lib.hid hm
    have hmi : (m : Int) - 1 = k := by omega
    rw [hm] at hk ⊢
    clear hm
    have hxd := Mix.Ex.of_dr hd
    by_cases hlt : m < n
    case neg =>
      go_wp2_with fail
      go_ret
      exact ⟨rfl, hx.trans hxd⟩
    have hkn : k < n := by have := HM.out; omega
    obtain ⟨e1, q1⟩ := F1.out k hkn
    obtain ⟨e2, q2⟩ := F1.out m hlt
    have c1 : wr.cell? ⟨go, k, none⟩ = some (.int .i64 (σ k)) := by
      have := (hro.ex hxd).cell (i := k) (j := 0) (x := g k) (by simp [hkn]) (u := .int .i64 (g k)) rfl
      rw [e1] at this
      simpa using this
    have c2 : wr.cell? ⟨go, m, none⟩ = some (.int .i64 (σ m)) := by
      have := (hro.ex hxd).cell (i := m) (j := 0) (x := g m) (by simp [hlt]) (u := .int .i64 (g m)) rfl
      rw [e2] at this
      simpa using this
    obtain ⟨r, hrk⟩ : ∃ r, rs[σ k]? = some r := ⟨rs[σ k]'(by have := HN.out; omega), List.getElem?_eq_getElem _⟩
    obtain ⟨s, hsk⟩ : ∃ s, rs[σ m]? = some s := ⟨rs[σ m]'(by have := HN.out; omega), List.getElem?_eq_getElem _⟩
    obtain ⟨l0, l1, l2, l3⟩ := row_cells (hr.ex hxd) hrk
    obtain ⟨m0, m1, m2, m3⟩ := row_cells (hr.ex hxd) hsk
    have hcmp : s.y0 ≤ r.y0 := by
      have h1 := F3.out k (by have := HM.out; omega) r s hrk (by rw [HM.out]; exact hsk)
      exact h1.2 (by first | rfl | trivial)
    generalize σ k = i1 at *
    generalize σ m = i2 at *
    have HE1 := Lib.hid e1
    have HE2 := Lib.hid e2
    clear e1 e2 hrk hsk
    go_wp2_with fail
    (refine Mix.wp_region_dr (by kernel_rfl) (by kernel_rfl) ?_; (repeat (go_big_quiet_step (fail))); refine wpQuiet_nil ?_; intro nq)
    go_wp2_with fail
    clear c1 c2 l0 l1 l2 l3 m0 m1 m2 m3
    go_roundw
    case rel => exact ⟨m, by omega, by go_num, by repeat (first | exact hd | apply Mix.Dr.drewN)⟩
    case measure => simp [intOf]; omega
set_option maxRecDepth 100000 in
set_option maxHeartbeats 3200000 in
theorem sort_walk_111 (w : World) (v : Value) (zs : List Int) (h : Ints16At w v zs) :
    Calls Try.prog 11 #[v, .bool true, .bool true, .bool true] w fun e w' => e = .returned (.bool true) ∧ Mix.Ex w w' := by
  have h' := h
  obtain ⟨⟨o, cap0, rfl, hcells⟩, hle, hwf⟩ := h
  clear hcells hwf
  go_enter Try.func11, Try.ntmps11
  go_wp2_with fail
  · go_ret
    exact ⟨rfl, Mix.Ex.refl _⟩
  refine (specBoxes_c w _ zs h').mono ?_
  rintro e w1 ⟨gb, cap, rfl, hr, hx⟩
  have hl := boxesOf_le zs
  generalize boxesOf zs = rs at hr hl ⊢
  obtain ⟨n, hn⟩ : ∃ n, rs.length = n := ⟨_, rfl⟩
  have HN := Lib.hid hn
  have HS := implSort_c w1 gb cap _ rs 1 true true (by omega) hr hl
  rw [hn] at hr hl HS ⊢
  clear hn
  go_wp2_with fail
  refine (HS.mono ?_ : Calls _ _ _ w1 _)
  rintro e w2 ⟨vo, g, rfl, hg, hro, hx2⟩
  have hr := hr.ex hx2
  have hx := hx.trans hx2
  obtain ⟨σ, f1, f2, f3⟩ := sort_facts HN.out hg
  obtain ⟨o1, o2, o3⟩ := once_facts f1 f2
  have F1 := Lib.hid f1
  have F3 := Lib.hid f3
  clear HS hg f1 f2 f3 hx2
  have hlenL : ((List.range n).map g).length = n := by simp
  rcases hro.form with ⟨rfl, hz⟩ | ⟨go, co, rfl, hg1, hg2, hg3, hg4⟩
  · go_wp2_with fail
    have hal : (w2.alloc (.cells #[(.slice none 0 0)] 40)).heap[w2.heap.size]? = some (.cells #[(.slice none 0 0)] 40 (0, 0)) := heap_alloc_new w2 _
    have hxa := (Mix.Ex.refl w2).alloc (.cells #[(.slice none 0 0)] 40)
    refine (once_c (w2.alloc (.cells #[(.slice none 0 0)] 40)) n w2.heap.size 1 w1.heap.size 1 [(List.range n).map g] (by simp) (fun j L hj => ?_) hl o1 o2 o3 rfl (by omega)).mono ?_
    · have : j = 0 := by
        rcases j with _ | j
        · rfl
        · simp at hj
      subst this
      simp only [List.getElem?_cons_zero, Option.some.injEq] at hj
      subst hj
      exact ⟨.slice none 0 0, by rw [cell_of_row _ _ 0 _ _ _ hal]; rfl, hro.ex hxa⟩
    rintro e w3 ⟨rfl, hx3⟩
    have hx3 := hxa.trans hx3
    have hr := hr.ex hx3
    have hro := hro.ex hx3
    have hx := hx.trans hx3
    clear hal hxa o1 o2 o3
    go_wp2_with fail
    go_loopw [12] (fun i wr => i = .int .i64 1 ∧ wr = w3) (fun i _ => 0)
    case atStart => exact ⟨rfl, rfl⟩
    case round =>
      obtain ⟨rfl, rfl⟩ := hrel
      go_wp2_with fail
      go_ret
      exact ⟨rfl, hx⟩
  rw [hlenL] at hro hg3
  clear hlenL
  go_wp2_with fail
  have hal : (w2.alloc (.cells #[.slice (some ⟨go, 0, none⟩) n co] 40)).heap[w2.heap.size]? = some (.cells #[.slice (some ⟨go, 0, none⟩) n co] 40 (0, 0)) := heap_alloc_new w2 _
  have hxa := (Mix.Ex.refl w2).alloc (.cells #[.slice (some ⟨go, 0, none⟩) n co] 40)
  refine (once_c (w2.alloc (.cells #[.slice (some ⟨go, 0, none⟩) n co] 40)) n w2.heap.size 1 w1.heap.size 1 [(List.range n).map g] (by simp) (fun j L hj => ?_) hl o1 o2 o3 rfl (by omega)).mono ?_
  · have : j = 0 := by
      rcases j with _ | j
      · rfl
      · simp at hj
    subst this
    simp only [List.getElem?_cons_zero, Option.some.injEq] at hj
    subst hj
    exact ⟨_, by rw [cell_of_row _ _ 0 _ _ _ hal]; rfl, hro.ex hxa⟩
  rintro e w3 ⟨rfl, hx3⟩
  have hx3 := hxa.trans hx3
  have hr := hr.ex hx3
  have hro := hro.ex hx3
  have hx := hx.trans hx3
  clear hal hxa o1 o2 o3
  go_wp2_with fail
  go_loopw [12] (fun i wr => ∃ k : Nat, k + 1 ≤ max n 1 ∧ i = .int .i64 ((k + 1 : Nat) : Int) ∧ Mix.Dr w3 wr) (fun i _ => n - (intOf i).toNat)
  case atStart => exact ⟨0, by omega, rfl, Mix.Dr.refl _⟩
  case round =>
    obtain ⟨k, hk, rfl, hd⟩ := hrel
    obtain ⟨m, hm⟩ : ∃ m, k + 1 = m := ⟨_, rfl⟩
    have HM := Lib.hid hm
    have hmi : (m : Int) - 1 = k := by omega
    rw [hm] at hk ⊢
    clear hm
    have hxd := Mix.Ex.of_dr hd
    by_cases hlt : m < n
    case neg =>
      go_wp2_with fail
      go_ret
      exact ⟨rfl, hx.trans hxd⟩
    have hkn : k < n := by have := HM.out; omega
    obtain ⟨e1, q1⟩ := F1.out k hkn
    obtain ⟨e2, q2⟩ := F1.out m hlt
    have c1 : wr.cell? ⟨go, k, none⟩ = some (.int .i64 (σ k)) := by
      have := (hro.ex hxd).cell (i := k) (j := 0) (x := g k) (by simp [hkn]) (u := .int .i64 (g k)) rfl
      rw [e1] at this
      simpa using this
    have c2 : wr.cell? ⟨go, m, none⟩ = some (.int .i64 (σ m)) := by
      have := (hro.ex hxd).cell (i := m) (j := 0) (x := g m) (by simp [hlt]) (u := .int .i64 (g m)) rfl
      rw [e2] at this
      simpa using this
    obtain ⟨r, hrk⟩ : ∃ r, rs[σ k]? = some r := ⟨rs[σ k]'(by have := HN.out; omega), List.getElem?_eq_getElem _⟩
    obtain ⟨s, hsk⟩ : ∃ s, rs[σ m]? = some s := ⟨rs[σ m]'(by have := HN.out; omega), List.getElem?_eq_getElem _⟩
    obtain ⟨l0, l1, l2, l3⟩ := row_cells (hr.ex hxd) hrk
    obtain ⟨m0, m1, m2, m3⟩ := row_cells (hr.ex hxd) hsk
    have hcmp : s.y1 ≤ r.y1 := by
      have h1 := F3.out k (by have := HM.out; omega) r s hrk (by rw [HM.out]; exact hsk)
      exact h1.2 (by first | rfl | trivial)
    generalize σ k = i1 at *
    generalize σ m = i2 at *
    have HE1 := Lib.hid e1
    have HE2 := Lib.hid e2
    clear e1 e2 hrk hsk
    go_wp2_with fail
    (refine Mix.wp_region_dr (by kernel_rfl) (by kernel_rfl) ?_; (repeat (go_big_quiet_step (fail))); refine wpQuiet_nil ?_; intro nq)
    go_wp2_with fail
    (refine Mix.wp_region_dr (by kernel_rfl) (by kernel_rfl) ?_; (repeat (go_big_quiet_step (fail))); refine wpQuiet_nil ?_; intro nq)
    go_wp2_with fail
    clear c1 c2 l0 l1 l2 l3 m0 m1 m2 m3
    go_roundw
    case rel => exact ⟨m, by omega, by go_num, by repeat (first | exact hd | apply Mix.Dr.drewN)⟩
    case measure => simp [intOf]; omega
theorem sort_walk (w : World) (v : Value) (zs : List Int) (h : Ints16At w v zs) (ax rev mx : Bool) :
    Calls Try.prog 11 #[v, .bool ax, .bool rev, .bool mx] w fun e w' => e = .returned (.bool true) ∧ Mix.Ex w w' := by
  cases ax <;> cases rev <;> cases mx
  · exact sort_walk_000 w v zs h
  · exact sort_walk_001 w v zs h
  · exact sort_walk_010 w v zs h
  · exact sort_walk_011 w v zs h
  · exact sort_walk_100 w v zs h
  · exact sort_walk_101 w v zs h
  · exact sort_walk_110 w v zs h
  · exact sort_walk_111 w v zs h
end Go.Proofs.Ytenokcfpmfoekaa
