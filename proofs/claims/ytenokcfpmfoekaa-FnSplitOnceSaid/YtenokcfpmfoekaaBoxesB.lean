/- The boxes of the package out of boxes; a leaf of boxes. -/
import Derived.Test.YtenokcfpmfoekaaBoxes
set_option linter.unusedSimpArgs false
set_option linter.unusedVariables false
namespace Go.Proofs.Ytenokcfpmfoekaa
open Go.RowKit Go.Bx

theorem info_rbox : (Try.prog.info? 47).map (fun i => (i.zero, i.size, i.bytes)) = some (some (.agg #[.int .i64 0, .int .i64 0, .int .i64 0, .int .i64 0]), 4, 32) := by kernel_rfl
/-- The four cells of an entry. -/
theorem row_cells {w : World} {base : Nat} {T : TypeId} {g n cap : Nat} {rs : List R} (h : w.Row base T 4 boxV (.slice (some ⟨g, 0, none⟩) n cap) rs) {k : Nat} {r : R} (hk : rs[k]? = some r) :
    RectAt w g (k * 4) r := ⟨h.cell (j := 0) hk rfl, h.cell (j := 1) hk rfl, h.cell (j := 2) hk rfl, h.cell (j := 3) hk rfl⟩

set_option maxRecDepth 100000 in
set_option maxHeartbeats 1600000 in
theorem implBoxes_c (w : World) (g0 cap0 b0 : Nat) (rs : List R) (hr : w.Row b0 25 4 boxV (.slice (some ⟨g0, 0, none⟩) rs.length cap0) rs) (hl : rs.length ≤ 64) :
    Calls Try.prog 43 #[.slice (some ⟨g0, 0, none⟩) rs.length cap0] w fun e w' => ∃ g cap, e = .returned (.slice (some ⟨g, 0, none⟩) rs.length cap) ∧
      w'.Row w.heap.size 47 4 boxV (.slice (some ⟨g, 0, none⟩) rs.length cap) rs ∧ Mix.Ex w w' := by
  obtain ⟨i0, hi0, hz0, hz1, hz2⟩ := info_parts info_rbox
  obtain ⟨B, hB⟩ : ∃ B, w.heap.size = B := ⟨_, rfl⟩
  obtain ⟨n, hn⟩ : ∃ n, rs.length = n := ⟨_, rfl⟩
  rw [hn] at hr hl ⊢
  have HN := Lib.hid hn
  clear hn
  go_enter Try.func43, Try.ntmps43
  go_wp2_with fail
  go_loopw [3, 9] (fun v i wr => ∃ k g cap : Nat, k ≤ n ∧ i = .int .i64 k ∧ v = .slice (some ⟨g, 0, none⟩) k cap ∧
      wr.Row B 47 4 boxV v (rs.take k) ∧ Mix.Ex w wr) (fun _ i _ => n - (intOf i).toNat)
  case atStart =>
    exact ⟨0, B, 0, by omega, rfl, rfl, .made boxV_len B (Nat.le_refl _) (by rw [← hB]; exact heap_alloc_new w _), (Mix.Ex.refl _).alloc _⟩
  case round =>
    obtain ⟨k, g, cap, hk, rfl, rfl, hrow, hx⟩ := hrel
    have hbs := hx.below.size
    by_cases hlt : k < n
    case neg =>
      have e : rs.take k = rs := List.take_of_length_le (by have := HN.out; omega)
      rw [e] at hrow
      have hkn : k = n := by omega
      subst hkn
      go_wp2_with fail
      go_ret
      exact ⟨g, cap, rfl, by first | exact hrow | (rw [hB]; exact hrow), hx⟩
    obtain ⟨r, hrk⟩ : ∃ r, rs[k]? = some r := ⟨rs[k]'(by have := HN.out; omega), List.getElem?_eq_getElem _⟩
    obtain ⟨l0, l1, l2, l3⟩ := row_cells (hr.ex hx) hrk
    have hg0 := World.block_lt_of_cell? wr _ l0
    dsimp only at hg0
    have htl : (rs.take k).length = k := by rw [List.length_take]; have := HN.out; omega
    go_wp2_with (at_builtin; refine wpList_append_row _ rfl (.tmp 13) (.tmp 15) 52 rfl B 47 i0 _ 4 32 Try.underlying52 hi0 hz0 hz1 hz2 rfl (by omega) boxV (.slice (some ⟨g, 0, none⟩) k cap) (rs.take k) r rfl (hrow.ex (((Mix.Ex.refl _).alloc _).alloc _)) ⟨wr.heap.size + 1, 0, none⟩ 1 rfl (World.news_of_block (cs := (boxV r).toArray) (by rw [show wr.heap.size + 1 = (wr.alloc (.cells (boxV r).toArray 25)).heap.size by simp]; exact heap_alloc_new _ _)) (boxV_one _) (by unfold maxLen; omega) (by omega) (by simp; omega) ?_; intro g2 cap2 w3 hrow3 hgrow hat2 hlt2)
    have htk : rs.take (k + 1) = rs.take k ++ [r] := by rw [List.take_add_one, hrk]; rfl
    rw [← htk, htl] at hrow3
    have hx3 := (((hx.alloc (.cells (boxV r).toArray 25)).alloc (.cells (boxV r).toArray 47))).grown hgrow (fun j hj => by simp [Value.ownBlock] at hj; subst hj; rw [hB]; exact (hrow.lt _ rfl).1)
    go_roundw
    case rel => exact ⟨k + 1, g2, cap2, by omega, by go_num, rfl, hrow3, hx3⟩
    case measure => simp [intOf]; omega

/-- What a leaf of boxes holds. -/
def leafRc (rs : List R) (k : Nat) : Nat → R := fun i => if i < k then rs.getD i R0 else R0
def leafNd (rs : List R) (k q : Nat) : Nd := ⟨0, true, k, q, leafRc rs k⟩
def leafF (k : Nat) : Nat → Value := fun i => if i < k then .int .i64 i else .int .i64 0
theorem upd_leafRc (rs : List R) (k : Nat) (r : R) (h : rs[k]? = some r) : upd (leafRc rs k) k r = leafRc rs (k + 1) := by
  funext i
  unfold upd leafRc
  by_cases h1 : i = k
  · subst h1; simp [h]
  · by_cases h2 : i < k
    · simp [h1, h2, show i < k + 1 by omega]
    · simp [h1, h2, show ¬ i < k + 1 by omega]
theorem setR_leaf (rs : List R) (k q : Nat) (r : R) (h : rs[k]? = some r) : (leafNd rs k q).setR k ⟨r.x0, r.y0, r.x1, r.y1⟩ = ⟨0, true, k, q, leafRc rs (k + 1)⟩ := by
  simp only [Nd.setR, leafNd, Nd.mk.injEq, true_and]
  exact upd_leafRc rs k r h
theorem leafRc_zero (rs : List R) : leafRc rs 0 = fun _ => R0 := by funext i; simp [leafRc]
theorem leafF_zero : leafF 0 = zeroE true := by funext i; simp [leafF, zeroE]
theorem upd_leafF (k : Nat) : upd (leafF k) k (.int .i64 k) = leafF (k + 1) := by
  funext i
  unfold upd leafF
  by_cases h1 : i = k
  · subst h1; simp
  · by_cases h2 : i < k
    · simp [h1, h2, show i < k + 1 by omega]
    · simp [h1, h2, show ¬ i < k + 1 by omega]

set_option maxRecDepth 100000 in
set_option maxHeartbeats 1600000 in
theorem zzLeaf_c (w : World) (t g0 cap0 b0 : Nat) (rs : List R) (ht : w.cell? ⟨t, 0, none⟩ = some (.int .u64 0)) (hr : w.Row b0 47 4 boxV (.slice (some ⟨g0, 0, none⟩) rs.length cap0) rs) (hl : rs.length ≤ 64) :
    Calls Try.prog 58 #[.pointer (some ⟨t, 0, none⟩), .slice (some ⟨g0, 0, none⟩) rs.length cap0] w fun e w' => ∃ p q, e = .returned (.pointer (some ⟨p, 0, none⟩)) ∧
      NodeAt w' p (leafNd rs rs.length q) ∧ ListAt w' q (elT true) (leafF rs.length) ∧ p ≠ q ∧ w.heap.size ≤ p ∧ w.heap.size ≤ q ∧ Mix.Ex w w' := by
  obtain ⟨n, hn⟩ : ∃ n, rs.length = n := ⟨_, rfl⟩
  rw [hn] at hr hl ⊢
  have HN := Lib.hid hn
  clear hn
  go_enter Try.func58, Try.ntmps58
  go_wp2_with fail
  refine (newNode_c _ t 0 true ht).mono ?_
  rintro e w0 ⟨p, q, rfl, hN, hL, hpq, hp, hq, hx⟩
  go_wp2_with fail
  go_loopw [12] (fun i wr => ∃ k : Nat, k ≤ n ∧ i = .int .i64 k ∧ NodeAt wr p (leafNd rs k q) ∧ ListAt wr q (elT true) (leafF k) ∧ Mix.Ex w wr) (fun i _ => n - (intOf i).toNat)
  case atStart =>
    refine ⟨0, by omega, rfl, ?_, ?_, hx⟩
    · unfold leafNd; rw [leafRc_zero]; exact hN
    · rw [leafF_zero]; exact hL
  case round =>
    obtain ⟨k, hk, rfl, hNr, hLr, hxr⟩ := hrel
    by_cases hlt : k < n
    case neg =>
      have hkn : k = n := by omega
      subst hkn
      go_wp2_with fail
      go_ret
      exact ⟨p, q, rfl, hNr, hLr, hpq, hp, hq, hxr⟩
    obtain ⟨r, hrk⟩ : ∃ r, rs[k]? = some r := ⟨rs[k]'(by have := HN.out; omega), List.getElem?_eq_getElem _⟩
    obtain ⟨l0, l1, l2, l3⟩ := row_cells (hr.ex hxr) hrk
    have hg0 := World.block_lt_of_cell? wr _ l0
    dsimp only at hg0
    go_wp2_with fail
    have hN1 := hNr.ex ((Mix.Ex.refl wr).alloc (.cells (boxV r).toArray 47))
    have hL1 := hLr.ex ((Mix.Ex.refl wr).alloc (.cells (boxV r).toArray 47))
    have hx1 := hxr.alloc (.cells (boxV r).toArray 47)
    have hm := rectAt_alloc wr r 47 rfl
    have hpG : wr.heap.size ≠ p := by have := hNr.lt; omega
    have hqG : wr.heap.size ≠ q := by have := hLr.lt; omega
    change Code.wp _ _ _ _ (wr.alloc (.cells (boxV r).toArray 47))
    change RectAt (wr.alloc (.cells (boxV r).toArray 47)) _ _ _ at hm
    clear l0 l1 l2 l3 hg0 hNr hLr hxr hN hL
    generalize wr.heap.size = G at hm hpG hqG ⊢
    generalize (wr.alloc (.cells (boxV r).toArray 47)) = w1 at hN1 hL1 hx1 hm ⊢
    obtain ⟨w2, rfl, hp2, hq2⟩ := hN1.opn2 hL1
    obtain ⟨m0, m1, m2, m3⟩ := hm
    rw [World.cell_putL_other _ _ _ _ _ _ _ hqG, World.cell_putN_other _ _ _ _ _ _ hpG] at m0 m1 m2 m3
    simp only [Nat.zero_add] at m0 m1 m2 m3
    have hqp : q ≠ p := hpq.symm
    have hk64 : k < 64 := by omega
    (refine Mix.wp_region_drw 10 [0] (by kernel_rfl) (by kernel_rfl) ?_; simp only [List.take_succ_cons, List.take_zero, List.drop_succ_cons, List.drop_zero]; (repeat (go_big_quiet_step (fail))); refine wpQuiet_nil ?_)
    (refine Mix.wpTl_dr (fun n K hK => ?_); go_simp; refine ⟨_, ⟨_, rfl⟩, hK _ _ trivial ?_⟩; clear hK K; simp only [Act.put, List.take_succ_cons, List.take_zero, List.drop_succ_cons, List.drop_zero])
    (refine wpQuiet_nil ?_; intro nq)
    rw [setR_leaf rs k q r hrk]
    go_wp2_with fail
    refine (items_c _ p ⟨0, true, k, q, leafRc rs (k + 1)⟩ (((NodeAt.put _ hp2).putL_other hqp).drewN _) rfl).mono ?_
    rintro e w3 ⟨rfl, rfl⟩
    go_wp2_with fail
    have eN : ({ icow := 0, leaf := true, cnt := ↑k, q := q, rc := leafRc rs (k + 1) } : Nd).setCnt (↑k + 1) = leafNd rs (k + 1) q := rfl
    rw [eN, upd_leafF]
    have hx4 := (hx1.putN hp (leafNd rs (k + 1) q)).putL hq (elT true) (leafF (k + 1))
    rw [World.putN_putL _ _ _ _ _ _ hqp, World.putN_putN, World.putL_putL] at hx4
    go_roundw
    case rel =>
      exact ⟨k + 1, by omega, by go_num, ((NodeAt.put _ hp2).putL_other hqp).drewN _, (ListAt.put _ _ (by simp; exact hq2)).drewN _, hx4.drewN _⟩
    case measure => simp [intOf]; omega
end Go.Proofs.Ytenokcfpmfoekaa
