/- The walk of the law on the box around boxes. -/
import Derived.Test.YtenokcfpmfoekaaAround
import Derived.Test.YtenokcfpmfoekaaEq
import Derived.OpenShut
set_option linter.unusedSimpArgs false
set_option linter.unusedVariables false
namespace Go.Proofs.Ytenokcfpmfoekaa
open Go.RowKit Go.Bx

theorem Ints16At.nil (w : World) : Ints16At w (.slice none 0 0) [] := ⟨⟨none, 0, rfl, fun h => by simp at h⟩, by simp, fun i => by simp [I16]⟩
theorem Ints16At.mk' {w : World} {a : Addr} {len cap : Nat} {zs : List Int} (hl : len ≤ cap) (hz : zs.length = cap) (hreach : len ≤ 70368744175616)
    (hcell : ∀ i, i < zs.length → w.cell? (a.add i) = some (.int .i16 (zs.getD i 0))) (hwz : ∀ n ∈ zs, (Lit.int .i16 n).wf = true) : Ints16At w (.slice (some a) len cap) (zs.take len) := by
  have hlen : (zs.take len).length = len := by rw [List.length_take]; omega
  refine ⟨⟨some a, cap, by rw [hlen], fun h => ⟨a, rfl, ?_, fun i hi => ?_⟩⟩, by omega, fun i => ?_⟩
  · have := World.block_lt_of_cell? w _ (hcell 0 (by omega))
    rwa [add_block] at this
  · rw [hcell i (by omega)]
    congr 2
    simp only [List.getD_eq_getElem?_getD]
    rw [List.getElem?_take_of_lt (by omega)]
  · rcases Nat.lt_or_ge i (zs.take len).length with h | h
    · have h2 : (zs.take len).getD i 0 ∈ zs := by
        simp only [List.getD_eq_getElem?_getD, List.getElem?_eq_getElem h, Option.getD_some]
        exact List.mem_of_mem_take (List.getElem_mem h)
      have := bounds_i16 (hwz _ h2)
      exact this
    · simp only [List.getD_eq_getElem?_getD, List.getElem?_eq_none h, Option.getD_none]
      simp [I16]
theorem expand_self (r : R) : r.expand r = r := by
  obtain ⟨a, b, c, d⟩ := r
  simp [R.expand]
theorem boxesOf_le (zs : List Int) : (boxesOf zs).length ≤ 64 := by unfold boxesOf; rw [boxesN_len]; omega
theorem leafRc_get (rs : List R) (k : Nat) (r : R) (h : rs[k]? = some r) : leafRc rs rs.length k = r := by
  have := (List.getElem?_eq_some_iff.1 h).1
  unfold leafRc
  rw [if_pos this, List.getD_eq_getElem?_getD, h]; rfl

set_option maxRecDepth 100000 in
set_option maxHeartbeats 1600000 in
theorem around_walk (w : World) (v : Value) (zs : List Int) (h : Ints16At w v zs) :
    Calls Try.prog 9 #[v] w fun e w' => e = .returned (.bool true) ∧ Mix.Ex w w' := by
  have h' := h
  obtain ⟨⟨o, cap0, rfl, hcells⟩, hle, hwf⟩ := h
  clear hcells hwf
  go_enter Try.func9, Try.ntmps9
  go_wp2_with fail
  · go_ret
    exact ⟨rfl, Mix.Ex.refl _⟩
  refine (specBoxes_c w _ zs h').mono ?_
  rintro e w1 ⟨g, cap, rfl, hr, hx⟩
  have hl := boxesOf_le zs
  generalize boxesOf zs = rs at hr hl ⊢
  obtain ⟨n, hn⟩ : ∃ n, rs.length = n := ⟨_, rfl⟩
  rw [hn] at hr hl ⊢
  by_cases h0 : n = 0
  · subst h0
    go_wp2_with fail
    go_ret
    exact ⟨rfl, hx⟩
  obtain ⟨r, hrk⟩ : ∃ r, rs[0]? = some r := ⟨rs[0]'(by omega), List.getElem?_eq_getElem _⟩
  have HN := Lib.hid hn
  clear hn
  have h0' : ((n : Int) == 0) = false := by simp; omega
  obtain ⟨l0, l1, l2, l3⟩ := row_cells hr hrk
  simp only [Nat.zero_mul, Nat.zero_add] at l0 l1 l2 l3
  go_wp2_with fail
  have hgW : g < w1.heap.size := (hr.lt _ rfl).2
  go_loopw [20] (fun i wr => ∃ k : Nat, k ≤ n ∧ i = .int .i64 k ∧ RectAt wr w1.heap.size 0 (bndF (leafRc rs n) (k - 1)) ∧ OpenAt wr w1.heap.size 0 ∧ Mix.Ex w1 wr) (fun i _ => n - (intOf i).toNat)
  case atStart =>
    refine ⟨0, by omega, rfl, ?_, openAt_alloc _ _ _ rfl, (Mix.Ex.refl _).alloc _⟩
    have : bndF (leafRc rs n) (0 - 1) = r := by rw [← HN.out]; exact leafRc_get rs 0 r hrk
    rw [this]
    exact rectAt_alloc _ _ _ rfl
  case round =>
    obtain ⟨k, hk, rfl, hm, ho, hxr⟩ := hrel
    by_cases hlt : k < n
    case neg =>
      have hkn : k = n := by omega
      subst hkn
      have hWs := hm.lt
      obtain ⟨m0, m1, m2, m3⟩ := hm
      simp only [Nat.zero_add] at m0 m1 m2 m3
      clear l0 l1 l2 l3
      go_wp2_with fail
      have hA : ∀ y, Calls Try.prog 28 #[.slice (some ⟨g, 0, none⟩) k cap] (wr.ext y) fun e w' => e = .returned (.agg #[.int .i64 (bndF (leafRc rs k) (k - 1)).x0, .int .i64 (bndF (leafRc rs k) (k - 1)).y0, .int .i64 (bndF (leafRc rs k) (k - 1)).x1, .int .i64 (bndF (leafRc rs k) (k - 1)).y1]) ∧ Mix.Ex (wr.ext y) w' := by
        intro y
        have h1 := implAround_c (wr.ext y) g cap _ rs (by rw [HN.out]; exact (hr.ex hxr).ex ((Mix.Ex.refl _).ext y)) (by rw [HN.out]; exact hl)
        rw [HN.out] at h1
        refine h1.mono ?_
        rintro e w' ⟨⟨r, rfl, rfl⟩, h⟩
        exact ⟨rfl, h⟩
      generalize bndF (leafRc rs k) (k - 1) = q at m0 m1 m2 m3 hA
      (refine Mix.wp_region_ex (by kernel_rfl) (by kernel_rfl) ?_; (repeat (go_big_quiet_step ((go_at_call 28; exact Mix.calls_qx (hA _) (fun y => ⟨_, World.ext_ext _ _ _⟩))))); refine wpQuiet_nil ?_; intro nq)
      go_wp2_with fail
      go_ret
      exact ⟨ret_bool (by simp [same]), (hx.trans hxr).ext _⟩
    obtain ⟨s, hsk⟩ : ∃ s, rs[k]? = some s := ⟨rs[k]'(by have := HN.out; omega), List.getElem?_eq_getElem _⟩
    obtain ⟨l0, l1, l2, l3⟩ := row_cells (hr.ex hxr) hsk
    have hg0 := World.block_lt_of_cell? wr _ l0
    dsimp only at hg0
    have hWs := hm.lt
    obtain ⟨m0, m1, m2, m3⟩ := id hm
    obtain ⟨o0, o1, o2, o3⟩ := id ho
    simp only [Nat.zero_add] at m0 m1 m2 m3 o0 o1 o2 o3
    generalize hq : bndF (leafRc rs n) (k - 1) = q at hm m0 m1 m2 m3
    have HQ := Lib.hid hq
    clear hq
    go_wp2_with fail
    refine (specAround_c _ q s).mono ?_
    rintro e w2 ⟨rfl, hx2⟩
    have hx2 := ((Mix.Ex.refl wr).alloc _).trans hx2
    have hm := hm.of_ex hx2
    have ho := ho.of_ex hWs hx2
    have hx := hxr.trans hx2
    obtain ⟨m0, m1, m2, m3⟩ := id hm
    obtain ⟨o0, o1, o2, o3⟩ := id ho
    simp only [Nat.zero_add] at m0 m1 m2 m3 o0 o1 o2 o3
    clear hx2 hxr
    go_wp2_with fail
    change _ ∧ _
    have e : (((w2.setCell ⟨w1.heap.size, 0, none⟩ (.int .i64 (q.expand s).x0)).setCell ⟨w1.heap.size, 1, none⟩ (.int .i64 (q.expand s).y0)).setCell ⟨w1.heap.size, 2, none⟩ (.int .i64 (q.expand s).x1)).setCell ⟨w1.heap.size, 3, none⟩ (.int .i64 (q.expand s).y1) = setRect w2 w1.heap.size 0 (q.expand s) := rfl
    rw [e]
    have hb : bndF (leafRc rs n) (k + 1 - 1) = q.expand s := by
      rw [← HQ.out]
      by_cases hk0 : k = 0
      · subst hk0
        have : leafRc rs n 0 = s := by rw [← HN.out]; exact leafRc_get rs 0 s hsk
        show leafRc rs n 0 = (leafRc rs n 0).expand s
        rw [this, expand_self]
      · obtain ⟨j, rfl⟩ : ∃ j, k = j + 1 := ⟨k - 1, by omega⟩
        show (bndF (leafRc rs n) j).expand (leafRc rs n (j + 1)) = _
        rw [show leafRc rs n (j + 1) = s by rw [← HN.out]; exact leafRc_get rs (j + 1) s hsk]
        rfl
    go_roundw
    case rel => exact ⟨k + 1, by omega, by go_num, by rw [hb]; exact hm.set _, openAt_setRect ho, ex_setRect hx (by omega) _⟩
    case measure => simp [intOf]; omega
end Go.Proofs.Ytenokcfpmfoekaa
